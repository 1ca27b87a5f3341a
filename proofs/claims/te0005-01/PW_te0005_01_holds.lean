import PyProof.Rows.All
import Wide.All
import OpenK.AllK
import Wide.FinOn
import KE.KSlice
import Lean
import PySem.Challenge.RW_te0005_01
set_option genSizeOf false
set_option genInjectivity false
set_option tactic.hygienic false
set_option linter.all false
set_option autoImplicit true
set_option relaxedAutoImplicit true
set_option Elab.async false
set_option maxRecDepth 100000
set_option maxHeartbeats 0
open PySem PySem.W PyProof.Rows PySem.Calls
namespace Mine
noncomputable section
section
set_option backward.match.sparseCases false
section
noncomputable abbrev Zs (l:List Nat):Str:=⟨l.toArray⟩
def n0:=Zs [95,119,97,108,108]
def n1:=Zs [107]
def n2:=Zs [95,95,110,97,109,101,95,95]
def n4:=Zs [89,65,77,76,69,114,114,111,114]
def n6:=Zs [121,97,109,108,46,101,118,101,110,116,115]
def n7:=Zs [69,118,101,110,116]
def n9:=Zs [95,95,105,110,105,116,95,95]
def aJ:=Zs [115,101,108,102]
def dM:=Zs [115,116,97,114,116,95,109,97,114,107]
def dK:=Zs [101,110,100,95,109,97,114,107]
def fL:=Zs [95,95,114,101,112,114,95,95]
def rF:=Zs [78,111,100,101,69,118,101,110,116]
def i8:=Zs [97,110,99,104,111,114]
def pZ:=Zs [67,111,108,108,101,99,116,105,111,110,83,116,97,114,116,69,118,101,110,116]
def lL:=Zs [116,97,103]
def nB:=Zs [105,109,112,108,105,99,105,116]
def uv:=Zs [102,108,111,119,95,115,116,121,108,101]
def u9:=Zs [67,111,108,108,101,99,116,105,111,110,69,110,100,69,118,101,110,116]
def pK:=Zs [83,116,114,101,97,109,83,116,97,114,116,69,118,101,110,116]
def qV:=Zs [101,110,99,111,100,105,110,103]
def xi:=Zs [83,116,114,101,97,109,69,110,100,69,118,101,110,116]
def qN:=Zs [68,111,99,117,109,101,110,116,83,116,97,114,116,69,118,101,110,116]
def p0:=Zs [101,120,112,108,105,99,105,116]
def vZ:=Zs [118,101,114,115,105,111,110]
def BK:=Zs [116,97,103,115]
def re:=Zs [68,111,99,117,109,101,110,116,69,110,100,69,118,101,110,116]
def vI:=Zs [65,108,105,97,115,69,118,101,110,116]
def p7:=Zs [83,99,97,108,97,114,69,118,101,110,116]
def cT:=Zs [118,97,108,117,101]
def pG:=Zs [115,116,121,108,101]
def wQ:=Zs [83,101,113,117,101,110,99,101,83,116,97,114,116,69,118,101,110,116]
def vj:=Zs [83,101,113,117,101,110,99,101,69,110,100,69,118,101,110,116]
def wX:=Zs [77,97,112,112,105,110,103,83,116,97,114,116,69,118,101,110,116]
def wj:=Zs [77,97,112,112,105,110,103,69,110,100,69,118,101,110,116]
def bn:=Zs [121,97,109,108,46,101,109,105,116,116,101,114]
def GT:=Zs [69,109,105,116,116,101,114,69,114,114,111,114]
def lQ:=Zs [83,99,97,108,97,114,65,110,97,108,121,115,105,115]
def iw:=Zs [115,99,97,108,97,114]
def zd:=Zs [101,109,112,116,121]
def zV:=Zs [109,117,108,116,105,108,105,110,101]
def u0:=Zs [97,108,108,111,119,95,102,108,111,119,95,112,108,97,105,110]
def vQ:=Zs [97,108,108,111,119,95,98,108,111,99,107,95,112,108,97,105,110]
def vX:=Zs [97,108,108,111,119,95,115,105,110,103,108,101,95,113,117,111,116,101,100]
def xb:=Zs [97,108,108,111,119,95,100,111,117,98,108,101,95,113,117,111,116,101,100]
def uK:=Zs [97,108,108,111,119,95,98,108,111,99,107]
def az:=Zs [69,109,105,116,116,101,114]
def tP:=Zs [68,69,70,65,85,76,84,95,84,65,71,95,80,82,69,70,73,88,69,83]
def Dc:=Zs [33]
def Qd:=Zs [116,97,103,58,121,97,109,108,46,111,114,103,44,50,48,48,50,58]
def O6:=Zs [33,33]
def wu:=Zs [115,116,114,101,97,109]
def ve:=Zs [99,97,110,111,110,105,99,97,108]
def sC:=Zs [105,110,100,101,110,116]
def Og:=Zs [119,105,100,116,104]
def w2:=Zs [97,108,108,111,119,95,117,110,105,99,111,100,101]
def oR:=Zs [108,105,110,101,95,98,114,101,97,107]
def BH:=Zs [115,116,97,116,101,115]
def zW:=Zs [115,116,97,116,101]
def qH:=Zs [101,120,112,101,99,116,95,115,116,114,101,97,109,95,115,116,97,114,116]
def xd:=Zs [101,118,101,110,116,115]
def iO:=Zs [101,118,101,110,116]
def yz:=Zs [105,110,100,101,110,116,115]
def yH:=Zs [102,108,111,119,95,108,101,118,101,108]
def zT:=Zs [114,111,111,116,95,99,111,110,116,101,120,116]
def AZ:=Zs [115,101,113,117,101,110,99,101,95,99,111,110,116,101,120,116]
def BB:=Zs [109,97,112,112,105,110,103,95,99,111,110,116,101,120,116]
def y8:=Zs [115,105,109,112,108,101,95,107,101,121,95,99,111,110,116,101,120,116]
def yK:=Zs [108,105,110,101]
def Bn:=Zs [99,111,108,117,109,110]
def v0:=Zs [119,104,105,116,101,115,112,97,99,101]
def vf:=Zs [105,110,100,101,110,116,105,111,110]
def yC:=Zs [111,112,101,110,95,101,110,100,101,100]
def zb:=Zs [98,101,115,116,95,105,110,100,101,110,116]
def yq:=Zs [98,101,115,116,95,119,105,100,116,104]
def An:=Zs [98,101,115,116,95,108,105,110,101,95,98,114,101,97,107]
def Nd:=Zs [10]
def TR:=Zs [13]
def A4:=Zs [116,97,103,95,112,114,101,102,105,120,101,115]
def yy:=Zs [112,114,101,112,97,114,101,100,95,97,110,99,104,111,114]
def A3:=Zs [112,114,101,112,97,114,101,100,95,116,97,103]
def BG:=Zs [97,110,97,108,121,115,105,115]
def qW:=Zs [100,105,115,112,111,115,101]
def pP:=Zs [101,109,105,116]
def qr:=Zs [110,101,101,100,95,109,111,114,101,95,101,118,101,110,116,115]
def JI:=Zs [105,115,105,110,115,116,97,110,99,101]
def ry:=Zs [110,101,101,100,95,101,118,101,110,116,115]
def PY:=Zs [99,111,117,110,116]
def OE:=Zs [108,101,110]
def rz:=Zs [105,110,99,114,101,97,115,101,95,105,110,100,101,110,116]
def RX:=Zs [102,108,111,119]
def LY:=Zs [105,110,100,101,110,116,108,101,115,115]
def pu:=Zs [119,114,105,116,101,95,115,116,114,101,97,109,95,115,116,97,114,116]
def pi:=Zs [101,120,112,101,99,116,95,102,105,114,115,116,95,100,111,99,117,109,101,110,116,95,115,116,97,114,116]
def qS:=Zs [101,120,112,101,99,116,95,110,111,116,104,105,110,103]
def qX:=Zs [101,120,112,101,99,116,95,100,111,99,117,109,101,110,116,95,115,116,97,114,116]
def zA:=Zs [102,105,114,115,116]
def rn:=Zs [119,114,105,116,101,95,105,110,100,105,99,97,116,111,114]
def rl:=Zs [119,114,105,116,101,95,105,110,100,101,110,116]
def Pw:=Zs [118,101,114,115,105,111,110,95,116,101,120,116]
def pp:=Zs [112,114,101,112,97,114,101,95,118,101,114,115,105,111,110]
def pB:=Zs [119,114,105,116,101,95,118,101,114,115,105,111,110,95,100,105,114,101,99,116,105,118,101]
def Ul:=Zs [104,97,110,100,108,101]
def TV:=Zs [112,114,101,102,105,120]
def JR:=Zs [104,97,110,100,108,101,95,116,101,120,116]
def qs:=Zs [112,114,101,112,97,114,101,95,116,97,103,95,104,97,110,100,108,101]
def Nx:=Zs [112,114,101,102,105,120,95,116,101,120,116]
def qZ:=Zs [112,114,101,112,97,114,101,95,116,97,103,95,112,114,101,102,105,120]
def pM:=Zs [119,114,105,116,101,95,116,97,103,95,100,105,114,101,99,116,105,118,101]
def q7:=Zs [99,104,101,99,107,95,101,109,112,116,121,95,100,111,99,117,109,101,110,116]
def qg:=Zs [101,120,112,101,99,116,95,100,111,99,117,109,101,110,116,95,114,111,111,116]
def qw:=Zs [119,114,105,116,101,95,115,116,114,101,97,109,95,101,110,100]
def pY:=Zs [101,120,112,101,99,116,95,100,111,99,117,109,101,110,116,95,101,110,100]
def pH:=Zs [102,108,117,115,104,95,115,116,114,101,97,109]
def qc:=Zs [101,120,112,101,99,116,95,110,111,100,101]
def Py:=Zs [114,111,111,116]
def Pg:=Zs [115,101,113,117,101,110,99,101]
def Ks:=Zs [109,97,112,112,105,110,103]
def KV:=Zs [115,105,109,112,108,101,95,107,101,121]
def rO:=Zs [101,120,112,101,99,116,95,97,108,105,97,115]
def rJ:=Zs [112,114,111,99,101,115,115,95,97,110,99,104,111,114]
def rS:=Zs [112,114,111,99,101,115,115,95,116,97,103]
def rf:=Zs [101,120,112,101,99,116,95,115,99,97,108,97,114]
def rm:=Zs [99,104,101,99,107,95,101,109,112,116,121,95,115,101,113,117,101,110,99,101]
def pX:=Zs [101,120,112,101,99,116,95,102,108,111,119,95,115,101,113,117,101,110,99,101]
def pV:=Zs [101,120,112,101,99,116,95,98,108,111,99,107,95,115,101,113,117,101,110,99,101]
def rR:=Zs [99,104,101,99,107,95,101,109,112,116,121,95,109,97,112,112,105,110,103]
def qq:=Zs [101,120,112,101,99,116,95,102,108,111,119,95,109,97,112,112,105,110,103]
def qO:=Zs [101,120,112,101,99,116,95,98,108,111,99,107,95,109,97,112,112,105,110,103]
def rp:=Zs [112,114,111,99,101,115,115,95,115,99,97,108,97,114]
def pA:=Zs [101,120,112,101,99,116,95,102,105,114,115,116,95,102,108,111,119,95,115,101,113,117,101,110,99,101,95,105,116,101,109]
def qi:=Zs [101,120,112,101,99,116,95,102,108,111,119,95,115,101,113,117,101,110,99,101,95,105,116,101,109]
def p9:=Zs [101,120,112,101,99,116,95,102,105,114,115,116,95,102,108,111,119,95,109,97,112,112,105,110,103,95,107,101,121]
def qd:=Zs [99,104,101,99,107,95,115,105,109,112,108,101,95,107,101,121]
def pS:=Zs [101,120,112,101,99,116,95,102,108,111,119,95,109,97,112,112,105,110,103,95,115,105,109,112,108,101,95,118,97,108,117,101]
def q8:=Zs [101,120,112,101,99,116,95,102,108,111,119,95,109,97,112,112,105,110,103,95,118,97,108,117,101]
def qo:=Zs [101,120,112,101,99,116,95,102,108,111,119,95,109,97,112,112,105,110,103,95,107,101,121]
def pF:=Zs [101,120,112,101,99,116,95,102,105,114,115,116,95,98,108,111,99,107,95,115,101,113,117,101,110,99,101,95,105,116,101,109]
def rV:=Zs [101,120,112,101,99,116,95,98,108,111,99,107,95,115,101,113,117,101,110,99,101,95,105,116,101,109]
def qT:=Zs [101,120,112,101,99,116,95,102,105,114,115,116,95,98,108,111,99,107,95,109,97,112,112,105,110,103,95,107,101,121]
def rg:=Zs [101,120,112,101,99,116,95,98,108,111,99,107,95,109,97,112,112,105,110,103,95,107,101,121]
def pv:=Zs [101,120,112,101,99,116,95,98,108,111,99,107,95,109,97,112,112,105,110,103,95,115,105,109,112,108,101,95,118,97,108,117,101]
def rq:=Zs [101,120,112,101,99,116,95,98,108,111,99,107,95,109,97,112,112,105,110,103,95,118,97,108,117,101]
def qG:=Zs [112,114,101,112,97,114,101,95,97,110,99,104,111,114]
def pz:=Zs [112,114,101,112,97,114,101,95,116,97,103]
def rX:=Zs [97,110,97,108,121,122,101,95,115,99,97,108,97,114]
def CK:=Zs [105,110,100,105,99,97,116,111,114]
def rE:=Zs [99,104,111,111,115,101,95,115,99,97,108,97,114,95,115,116,121,108,101]
def Iz:=Zs [34]
def lC:=Zs [115,112,108,105,116]
def rd:=Zs [119,114,105,116,101,95,100,111,117,98,108,101,95,113,117,111,116,101,100]
def pI:=Zs [119,114,105,116,101,95,115,105,110,103,108,101,95,113,117,111,116,101,100]
def qJ:=Zs [119,114,105,116,101,95,102,111,108,100,101,100]
def pt:=Zs [119,114,105,116,101,95,108,105,116,101,114,97,108]
def pq:=Zs [119,114,105,116,101,95,112,108,97,105,110]
def Gb:=Zs [99,104]
def J7:=Zs [48]
def OH:=Zs [97]
def nU:=Zs [115,116,97,114,116]
def o5:=Zs [101,110,100]
def GN:=Zs [100,97,116,97]
def LS:=Zs [111,114,100]
def EZ:=Zs [98,108,111,99,107,95,105,110,100,105,99,97,116,111,114,115]
def B9:=Zs [102,108,111,119,95,105,110,100,105,99,97,116,111,114,115]
def Ja:=Zs [108,105,110,101,95,98,114,101,97,107,115]
def D7:=Zs [115,112,101,99,105,97,108,95,99,104,97,114,97,99,116,101,114,115]
def IN:=Zs [108,101,97,100,105,110,103,95,115,112,97,99,101]
def EJ:=Zs [108,101,97,100,105,110,103,95,98,114,101,97,107]
def Gc:=Zs [116,114,97,105,108,105,110,103,95,115,112,97,99,101]
def C3:=Zs [116,114,97,105,108,105,110,103,95,98,114,101,97,107]
def B5:=Zs [98,114,101,97,107,95,115,112,97,99,101]
def Cs:=Zs [115,112,97,99,101,95,98,114,101,97,107]
def KQ:=Zs [112,114,101,99,101,100,101,100,95,98,121,95,119,104,105,116,101,115,112,97,99,101]
def Tk:=Zs [102,111,108,108,111,119,101,100,95,98,121,95,119,104,105,116,101,115,112,97,99,101]
def LU:=Zs [112,114,101,118,105,111,117,115,95,115,112,97,99,101]
def MY:=Zs [112,114,101,118,105,111,117,115,95,98,114,101,97,107]
def QP:=Zs [105,110,100,101,120]
def OC:=Zs [133]
def RF:=Zs [160]
def PA:=Zs [110,101,101,100,95,119,104,105,116,101,115,112,97,99,101]
def rr:=Zs [119,114,105,116,101]
def r7:=Zs [119,114,105,116,101,95,108,105,110,101,95,98,114,101,97,107]
def dg:=Zs [116,101,120,116]
def vu:=Zs [98,114,101,97,107,115]
def CT:=Zs [98,114]
def tB:=Zs [69,83,67,65,80,69,95,82,69,80,76,65,67,69,77,69,78,84,83]
def OI:=Zs [0]
def RS:=Zs [7]
def TK:=Zs [8]
def Nk:=Zs [9]
def Pt:=Zs [11]
def QT:=Zs [12]
def JY:=Zs [27]
def Jn:=Zs [92]
def Nf:=Zs [8232]
def PB:=Zs [8233]
def KK:=Zs [98]
def Mi:=Zs [116]
def JG:=Zs [110]
def UH:=Zs [118]
def LB:=Zs [102]
def Uc:=Zs [114]
def QO:=Zs [101]
def Qg:=Zs [78]
def R6:=Zs [95]
def K9:=Zs [76]
def LX:=Zs [80]
def ro:=Zs [100,101,116,101,114,109,105,110,101,95,98,108,111,99,107,95,104,105,110,116,115]
def jG:=Zs [104,105,110,116,115]
def P3:=Zs [115,116,114]
def iN:=Zs [82,111,119,115]
def fc:=Zs [114,111,119,115]
def jz:=Zs [108,97,119,95,116,101,48,48,48,53,95,48,49]
def nY:=Zs [95,108,97,119,95,82,79,87,83]
def nQ:=Zs [95,108,97,119,95,73,78,68,69,78,84,83]
def oy:=Zs [95,108,97,119,95,66,82,69,65,75,83]
def oa:=Zs [95,108,97,119,95,69,83,67,65,80,69,83]
def oH:=Zs [95,108,97,119,95,109,97,121,95,115,116,97,110,100]
def lg:=Zs [119,105,100,101]
def Lv:=Zs [97,116]
def jb:=Zs [115,105,103,110]
def Rs:=Zs [101,110,117,109,101,114,97,116,101]
def oq:=Zs [95,108,97,119,95,113,117,111,116,101,100]
def oK:=Zs [95,108,97,119,95,104,105,110,116,115]
def lT:=Zs [98,101,115,116]
def nN:=Zs [95,108,97,119,95,110,111,100,101]
def fh:=Zs [112,97,105,114,115]
def oI:=Zs [110,108]
def oV:=Zs [95,108,97,119,95,112,97,105,114,115]
def iG:=Zs [102,111,114,109]
def xk:=Zs [99,108,111,115,101]
def qQ:=Zs [108,97,119]
def KP:=Zs [115,99,114,105,112,116]
def iA:=Zs [116,97,112,101]
def iu:=Zs [100,114,97,119,110]
def qe:=Zs [97,115,107,101,100]
def MA:=Zs [97,112,97,114,116]
def N1:=Zs [115,104,117,116]
def SR:=Zs [112,97,100]
def mO:=Zs [100,117,101]
def NQ:=Zs [110,97,114,114,111,119]
def Ri:=Zs [111,112,101,110,95,101,110,100]
def iX:=Zs [116,117,114,110]
def Rm:=Zs [114,97,110,103,101]
def KY:=Zs [109,97,120]
def tN:=Zs [111,110,101]
def ua:=Zs [116,119,111]
def s7:=Zs [116,104,114,101,101]
def tu:=Zs [112,108,97,99,101]
def hO:=Zs [110,101,97,114]
def hV:=Zs [102,97,114]
def mw:=Zs [115,116,97,110,100,115]
def lj:=Zs [110,111,100,101]
def jQ:=Zs [97,103,97,105,110]
def kA:=Zs [101,109,105,116,116,101,114]
def lr:=Zs [47,99,108,97,105,109,47,99,117,116,46,112,121]
noncomputable def iK:Program:=PySem.Challenge.pw_te0005_01
theorem LH:PySem.Challenge.pw_te0005_01=iK:=rfl
end
noncomputable def uo(ok:Thread→Bool)(st:SharedT→Thread→Option (SharedT×Thread)):Nat→SharedT→Thread→Option SharedT
 |0,_,_=>none
 |n+1,s,t=>match through t with
  |true=>some s
  |false=>match ok t with
   |false=>none
   |true=>match st s t with
    |some (s',t')=>uo ok st n s' t'
    |none=>none
theorem Gi:∀ {n:Nat} {s s':SharedT} {t:Thread},
  uo (stepOk n₀ ann) (stepT (denote tb) p w) n s t=some s'→topRun tb p w n₀ ann n s.abs t=some s'.abs
 |0,_,_,_,h=>by cases h
 |n+1,s,s',t,h=>by
  unfold uo at h;unfold topRun;cases he:through t with
  |true=>rw[he] at h;cases h;rfl
  |false=>
   rw[he] at h;cases hk:stepOk n₀ ann t with
   |false=>rw[hk] at h;cases h
   |true=>
    rw[hk] at h;cases hs:stepT (denote tb) p w s t with
    |none=>rw[hs] at h;cases h
    |some r=>obtain⟨s₂,t₂⟩:=r;rw[hs] at h;rw[stepT_spec hs];exact Gi h
theorem RJ{p q:Program}{loose:List Str}{Xt:Shared→Bool}{α:Type}{Yf:Shared→α}{Ya:World→α}{N:Nat}{g0:Bool}{T₀:Params→BT}{n:Nat}{life:Life}{gs₀:Array GenState}{d₀:Drawn}{k₀:Nat}{m₀:Nat}{ann:Option Value}{M:Nat}
  (open_:∀ w:World,(fencedOpening treeTable p w N).map (fun s=>(s.heap,s.gens,s.drawn,s.toks))=some (absHeap (T₀ w.params) n life,gs₀,d₀,k₀))
  (size:∀ w:World,((absHeap (T₀ w.params) n life).isNs mainGlobals&&gs₀.size == 0,(absHeap (T₀ w.params) n life).objs.size,(absHeap (T₀ w.params) n life).nsMap mainGlobals "__annotations__")=(true,m₀,ann))
  (run:∀ w:World,(fun os=>(uo (stepOk m₀ ann) (stepT (denote treeTable) p w) M ⟨T₀ w.params,n,life,gs₀,d₀,k₀,os⟩ (topStub p)).map fun s=>
   ((staticsOk (importedModules p.main.body) (absHeap (T₀ w.params) n life) s.abs.heap&&namesBound p s.abs.heap&&gensDone s.abs&&laidKept (absHeap (T₀ w.params) n life) s.abs.heap),
    openSeen q loose (importedModules p.main.body) Xt g0 s.abs,Yf s.abs))=fun U=>some (true,openGood q loose,Ya w)) (le:Nat.ble M N=true):LeftO p q loose Xt Yf Ya N g0:=fun w=>by
 obtain⟨⟨h,gs,d,k,os⟩,e,e'⟩:=Option.map_eq_some_iff.mp (open_ w);obtain⟨rfl,rfl,rfl,rfl⟩ : h=absHeap (T₀ w.params) n life∧gs=gs₀∧d=d₀∧k=k₀:=by simpa using e'
 obtain⟨z1,z2,z3⟩ : _∧_∧_:=by simpa only [Prod.mk.injEq] using size w
 obtain⟨s₁,r₁,l⟩:=Option.map_eq_some_iff.mp (congrFun (run w) os);obtain⟨l1,l2,l3⟩ : _∧_∧_:=by simpa only [Prod.mk.injEq] using l
 have r:=topRun_mono (N-M) _ _ _ _ (Gi r₁);rw[show M+(N-M)=N by have:=Nat.le_of_ble_eq_true le;omega] at r;have t:topFrom treeTable p w N ⟨absHeap (T₀ w.params) n life,gs,d,k,os⟩=some s₁.abs:=by
  unfold topFrom;dsimp only;rw[z1,z2,z3];show Option.bind (topRun treeTable p w m₀ ann N (SharedT.abs ⟨T₀ w.params,n,life,gs,d,k,os⟩) (topStub p)) _=_;rw[r];show (match staticsOk (importedModules p.main.body) (absHeap (T₀ w.params) n life) s₁.abs.heap&&namesBound p s₁.abs.heap&&gensDone s₁.abs&&laidKept (absHeap (T₀ w.params) n life) s₁.abs.heap with|true=>_|false=>_)=_;rw[l1]
 unfold openEnds;rw[e];show (topFrom treeTable p w N _).map _=_;rw[t];exact congrArg some (Prod.ext l2 l3)
noncomputable def T₀(P:Params):BT:=((((((((((BT.nil.ins 0 (boot_o_0 P)).ins 1 (boot_o_1 P)).ins 2 (boot_o_2 P)).ins 3 (boot_o_3 P)).ins 4 (boot_o_4 P)).ins 5 (boot_o_5 P)).ins 6 (boot_o_6 P)).ins 7 (boot_o_7 P)).ins 8 (boot_o_8 P)).ins 9 (boot_o_9 P)).ins 10 (boot_o_10 P)
theorem Of(P:Params):boot_heap P=absHeap (T₀ P) 11 {}:=by kernel_rfl
theorem P9:∀ w:World,(fencedOpening treeTable iK w 14200).map (fun s=>(s.heap,s.gens,s.drawn,s.toks))=some (absHeap (T₀ w.params) 11 {},Array.mk [],boot_drawn,boot_toks):=fun w=>by
 rw[←Of];exact boot_open (by kernel_rfl) (by decide) (fun U=>by kernel_rfl) w
theorem OJ:∀ w:World,((absHeap (T₀ w.params) 11 {}).isNs mainGlobals)=true:=fun w=>by kernel_rfl
theorem OY:∀ w:World,(absHeap (T₀ w.params) 11 {}).objs.size=11:=fun w=>by kernel_rfl
theorem Sb:∀ w:World,(absHeap (T₀ w.params) 11 {}).nsMap mainGlobals "__annotations__"=some (.ref 6):=fun w=>by kernel_rfl
theorem MZ:∀ w:World,((absHeap (T₀ w.params) 11 {}).isNs mainGlobals&&(Array.mk []:Array GenState).size == 0,(absHeap (T₀ w.params) 11 {}).objs.size,(absHeap (T₀ w.params) 11 {}).nsMap mainGlobals "__annotations__")=(true,11,some (.ref 6)):=fun w=>by
 rw[OJ,OY,Sb];rfl
section
section
set_option genSizeOf false
set_option genInjectivity false
theorem aq{α:Type}{p:α→Bool}{l:List α}(h:l.all p=true):∀ x,x∈l→p x=true:=List.all_eq_true.mp h
theorem aB{a b:Bool}(h:(a&&b)=true):a=true∧b=true:=Bool.and_eq_true_iff.mp h
theorem af{α:Type}(l:List α):l++[]=l:=List.append_nil l
theorem ax{α:Type}{a b:List α}:(a++b).length=a.length+b.length:=List.length_append
theorem aX{α:Type}(a b c:List α):a++b++c=a++(b++c):=List.append_assoc a b c
theorem bb{α:Type}{a:α}{l:List α}:(a::l).length=l.length+1:=List.length_cons
theorem bq{α:Type}{a:α}{l:List α}(r:List α)(h:a∈l):a∈l++r:=List.mem_append_left r h
theorem cS{α:Type}{a:α}(l:List α){r:List α}(h:a∈r):a∈l++r:=List.mem_append_right l h
theorem bX{a b:Nat}(h:Nat.beq a b=true):a=b:=Nat.eq_of_beq_eq_true h
theorem cH{α:Type}{a b:α}(h:a∈[b]):a=b:=List.mem_singleton.mp h
theorem bU{α:Type}{a b:α}{l:List α}(h:a∈b::l):a=b∨a∈l:=List.mem_cons.mp h
theorem dm{α β:Type}{f:α→β}{l:List α}{b:β}(h:b∈l.map f):∃ a,a∈l∧f a=b:=List.mem_map.mp h
theorem bK(n:Nat):(0:Int)≤(n:Int):=Int.natCast_nonneg n
theorem df{a b:Nat}(h:Nat.ble a b=true):a≤b:=Nat.le_of_ble_eq_true h
theorem bz(a:Int):a≤a:=Int.le_refl a
theorem aY(a:Int):a+0=a:=Int.add_zero a
theorem osI{α:Type}{a b:α}(h:some a=some b):a=b:=Option.some.inj h
theorem eU{m n:Nat}(h:m<n):m∈List.range n:=List.mem_range.mpr h
theorem eP{m n:Nat}(h:m≤n):(m:Int)≤(n:Int):=Int.ofNat_le.mpr h
theorem ey{α:Type}{a:α}{l r:List α}(h:a∈l++r):a∈l∨a∈r:=List.mem_append.mp h
def gd{α:Type}(b:Bool)(k:Option α):Option α:=Bool.rec none k b
def ob{α β:Type}(m:Option α)(f:α→Option β):Option β:=Option.rec none f m
def obp{α β γ:Type}(m:Option (α×β))(f:α→β→Option γ):Option γ:=Option.rec none (fun p=>Prod.rec f p) m
def mR{α β γ δ:Type}(m:Option (α×β×γ))(f:α→β→γ→Option δ):Option δ:=Option.rec none (fun p=>Prod.rec (fun a q=>Prod.rec (fun b c=>f a b c) q) p) m
structure am where
 c:Int
 l:List (Nat×Int)
noncomputable def xC(i:Int):Bool:=Int.rec (fun n=>Nat.beq n 0) (fun U=>false) i
noncomputable def sm(v:Nat)(a:Int)(l:List (Nat×Int)):List (Nat×Int):=List.rec [(v,a)] (fun p r ih=>Bool.rec (Bool.rec (p::ih) ((v,a)::p::r) (Nat.blt v p.1)) (Bool.rec ((p.1,a+p.2)::r) r (xC (a+p.2))) (Nat.beq p.1 v)) l
noncomputable def wb:List (Nat×Int)→List (Nat×Int)→List (Nat×Int)
 |[],y=>y
 |(v,a)::r,y=>wb r (sm v a y)
noncomputable def am.k(i:Int):am:=⟨i,[]⟩
def yl(l r:List (Nat×Int)):List (Nat×Int):=List.rec l (fun U U U=>List.rec r (fun U U U=>wb l r) l) r
def am.add(x y:am):am:=⟨x.c+y.c,yl x.l y.l⟩
noncomputable def am.neg(x:am):am:=⟨-x.c,x.l.map fun p=>(p.1,-p.2)⟩
def am.sub(x y:am):am:=x.add y.neg
noncomputable abbrev Bd:=List (Int×Int)
noncomputable def qI:Bd→Nat→Option (Int×Int)
 |[],_=>none
 |p::_,0=>some p
 |_::r,n+1=>qI r n
noncomputable def eC(a b:Int):Bool:=Int.rec (fun U=>true) (fun U=>false) (b-a)
noncomputable def sI(β:Bd)(l:List (Nat×Int)):Option Int:=List.rec (some 0) (fun p U ih=>Option.rec none (fun q=>Option.rec none (fun t=>some (Int.rec (fun U=>p.2*q.1) (fun U=>p.2*q.2) p.2+t)) ih) (qI β p.1)) l
noncomputable def am.lo(β:Bd)(x:am):Option Int:=Option.rec none (fun t=>some (x.c+t)) (sI β x.l)
noncomputable def A5(a b:Int):Bool:=match a,b with
 |.ofNat x,.ofNat y=>Nat.blt x y
 |.negSucc _,.ofNat _=>true
 |.ofNat _,.negSucc _=>false
 |.negSucc x,.negSucc y=>Nat.blt y x
noncomputable def lM(a b:Int):Bool:=match a,b with
 |.ofNat x,.ofNat y=>Nat.beq x y
 |.negSucc x,.negSucc y=>Nat.beq x y
 |_,_=>false
def yb(β:Bd)(x y:am):Option Bool:=Option.rec none (fun d=>Bool.rec (Option.rec none (fun e=>Bool.rec none (some false) (eC 0 e)) ((x.sub y).lo β)) (some true) (eC 1 d)) ((y.sub x).lo β)
def rU(x y:am):Bool:=List.rec (List.rec true (fun U U U=>false) y.l) (fun U U U=>false) x.l
def lD(β:Bd)(x y:am):Option Bool:=Bool.rec (yb β x y) (some (A5 x.c y.c)) (rU x y)
def jY(β:Bd)(x y:am):Option Bool:=Option.rec none (fun b=>some !b) (lD β y x)
def zH(β:Bd)(x y:am):Option Bool:=Option.rec none (fun d=>Option.rec none (fun e=>Bool.rec (Bool.rec (Bool.rec none (Bool.rec none (some true) (eC 0 e)) (eC 0 d)) (some false) (eC 1 e)) (some false) (eC 1 d)) ((x.sub y).lo β)) ((y.sub x).lo β)
def se(β:Bd)(x y:am):Option Bool:=Bool.rec (zH β x y) (some (lM x.c y.c)) (rU x y)
inductive Pc where
 |lit (l:List Nat)
 |var (i:Nat)
 |rep (ch:Nat) (n:am)
noncomputable abbrev SS:=List Pc
noncomputable def SS.app:SS→SS→SS
 |[],y=>y
 |[.lit a],.lit b::r=>.lit (a++b)::r
 |p::x,y=>p::SS.app x y
noncomputable def SS.k(l:List Nat):SS:=match l with|[]=>[]|l=>[.lit l]
def aA{α:Type}(l:List α):Nat:=List.rec 0 (fun U U ih=>Nat.succ ih) l
noncomputable def SS.len:SS→am
 |[]=>.k 0
 |.lit l::r=>(am.k (.ofNat (aA l))).add (SS.len r)
 |.var i::r=>(am.mk 0 [(2*i+1,1)]).add (SS.len r)
 |.rep _ n::r=>n.add (SS.len r)
noncomputable def SS.conc:SS→Option (List Nat)
 |[]=>some []
 |[.lit l]=>some l
 |_=>none
noncomputable def am.conc(x:am):Option Int:=List.rec (some x.c) (fun U U U=>none) x.l
def co(a:List Nat):List Nat→Bool:=List.rec (fun b=>List.rec true (fun U U U=>false) b) (fun x U ih b=>List.rec false (fun y r U=>Bool.rec false (ih r) (Nat.beq x y)) b) a
noncomputable def ru(s:Str):Nat:=List.rec 1 (fun c U ih=>Nat.add c (Nat.mul 1114112 ih)) s.cps.toList
noncomputable def seq(a b:Str):Bool:=Bool.rec false (co a.cps.toList b.cps.toList) (Nat.beq (ru a) (ru b))
noncomputable def lk{α:Type}(x:Str)(l:List (Str×α)):Option α:=List.rec none (fun p U ih=>Prod.rec (fun y v=>Bool.rec ih (some v) (seq y x)) p) l
noncomputable def jD(x:Str)(l:List Str):Bool:=List.rec false (fun y U ih=>Bool.rec ih true (seq y x)) l
noncomputable def put{α:Type}(x:Str)(v:α)(l:List (Str×α)):List (Str×α):=List.rec [(x,v)] (fun p r ih=>Prod.rec (fun y u=>Bool.rec ((y,u)::ih) ((y,v)::r) (seq y x)) p) l
inductive BF where
 |len|isi|ord|range|str|max|enum
noncomputable def BF.id:BF→String
 |.len=>"len"
 |.isi=>"isinstance"
 |.ord=>"ord"
 |.range=>"range"
 |.str=>"str"
 |.max=>"max"
 |.enum=>"enumerate"
noncomputable def BF.val(k:BF):Value:=match k with
 |.range=>.type "range"
 |.str=>.type "str"
 |.enum=>.type "enumerate"
 |k=>.builtin k.id
inductive BM where
 |append|pop|join|starts|copy
noncomputable def BM.id:BM→String
 |.append=>"list.append"
 |.pop=>"list.pop"
 |.join=>"str.join"
 |.starts=>"str.startswith"
 |.copy=>"dict.copy"
inductive AV where
 |none
 |bool (b:Bool)
 |int (l:am)
 |str (s:SS)
 |cell (k:Nat)
 |tup (xs:List AV)
 |obj (C:Addr) (fs:List (Str×AV))
 |dict (es:List (List Nat×AV))
 |cls (a:Addr)
 |fn (a:Addr)
 |bi (k:BF)
 |meth (f:Addr) (self:AV)
 |any (i:Nat)
 |rng (n:Nat)
inductive aw where
 |list (xs:List AV)
 |rows (t:SS) (n:am)
 |inst (C:Addr) (fs:List (Str×AV))
 |any (i:Nat)
noncomputable abbrev St:=List aw
def ak{α:Type}(l:List α):Nat→Option α:=List.rec (fun U=>none) (fun a U ih n=>Nat.rec (some a) (fun k U=>ih k) n) l
def dS{α:Type}(l:List α):Nat→α→List α:=List.rec (fun U U=>[]) (fun a r ih n x=>Nat.rec (x::r) (fun k U=>a::ih k x) n) l
structure CI where
 init:Option Addr
 frozen:Bool
 mro:List Addr
 meths:List (Str×Addr)
 consts:List (Str×AV)
 flds:List Str
structure oo where
 args:List Str
 dflt:List AV
 body:List Stmt
 sc:List (Str×NameKind)
structure ac where
 v:List (Str×AV)
 sc:List (Str×NameKind)
inductive Fl where
 |next|ret (v:AV)
structure Pi where
 β:Bd
 fn:Addr→Option oo
 ci:Addr→Option CI
 glob:Str→Option AV
 spec:St→Addr→List AV→Option (AV×St)
 nm:Nat→Str
noncomputable def eG(v:AV):Option am:=match v with|.int l=>some l|_=>none
noncomputable def jw(v:AV):Option SS:=match v with|.str s=>some s|_=>none
noncomputable def mf(v:AV):Option (List Nat):=match v with|.str s=>s.conc|_=>none
noncomputable def iW(v:AV):Option Int:=match v with|.int l=>l.conc|_=>none
noncomputable def ib(v:AV):Option Nat:=match v with|.cell k=>some k|_=>none
noncomputable def HE(v:AV):Option (List (List Nat×AV)):=match v with|.dict es=>some es|_=>none
noncomputable def tQ(c:aw):Option (List AV):=match c with|.list xs=>some xs|_=>none
noncomputable def zf(c:aw):Option (Addr×List (Str×AV)):=match c with|.inst C fs=>some (C,fs)|_=>none
def eq(σ:St)(k:Nat):Option (List AV):=ob (ak σ k) tQ
def mL(σ:St)(k:Nat):Option (Addr×List (Str×AV)):=ob (ak σ k) zf
def aF{α:Type}(l:List α):Bool:=List.rec true (fun U U U=>false) l
def kL{α:Type}(l:List α):Option α:=List.rec none (fun a r U=>Bool.rec none (some a) (aF r)) l
def nI(o:Option Bool):Option Bool:=Option.rec none (fun b=>some (Bool.rec true false b)) o
def ID(c:aw):Option Bool:=match c with
 |.list xs=>some (Bool.rec true false (aF xs))
 |.inst _ _=>some true
 |_=>none
def u3(β:Bd)(σ:St)(v:AV):Option Bool:=match v with
 |.none=>some false
 |.bool b=>some b
 |.int l=>nI (se β l (.k 0))
 |.str s=>lD β (.k 0) s.len
 |.cell k=>ob (ak σ k) ID
 |.obj _ _=>some true
 |_=>none
def tX(a:List Nat):List Nat→Bool:=List.rec (fun b=>List.rec false (fun U U U=>true) b) (fun x U ih b=>List.rec false (fun y r U=>Bool.rec (Bool.rec false (ih r) (Nat.beq x y)) true (Nat.blt x y)) b) a
def lR(a:List Nat):List Nat→Bool:=List.rec (fun U=>true) (fun x U ih b=>List.rec false (fun y r U=>Bool.rec false (ih r) (Nat.beq x y)) b) a
def u1(p q:Pc):Bool:=match p with
 |.lit a=>match q with|.lit b=>co a b|_=>false
 |.var i=>match q with|.var j=>Nat.beq i j|_=>false
 |_=>false
def v9(a:SS):SS→Bool:=List.rec (fun b=>List.rec true (fun U U U=>false) b) (fun p U ih b=>List.rec false (fun q r U=>Bool.rec false (ih r) (u1 p q)) b) a
def Bh(β:Bd)(a b:SS):Option Bool:=ob (se β a.len b.len) fun e=>Bool.rec (some false) (Bool.rec none (some true) (v9 a b)) e
def wn(β:Bd)(a b:SS):Option Bool:=Option.rec (Bh β a b) (fun x=>Option.rec (Bh β a b) (fun y=>some (co x y)) b.conc) a.conc
def Kv(β:Bd)(a:SS)(b:AV):Option Bool:=match b with
 |.str b=>wn β a b
 |.none=>some false
 |_=>none
def BU(β:Bd)(a b:AV):Option Bool:=match a with
 |.str s=>Kv β s b
 |.int x=>ob (eG b) fun y=>se β x y
 |.none=>ob (jw b) fun U=>some false
 |_=>none
noncomputable def jT(x:List Nat):List (List Nat×AV)→Option AV
 |[]=>none
 |p::r=>match co p.1 x with|true=>some p.2|false=>jT x r
noncomputable def isNone:AV→Option Bool
 |.none=>some true
 |.bi _=>.none
 |.any _=>.none
 |_=>some false
noncomputable def I1(a:AV):Option Nat:=match a with|.str [.lit [c]]=>some c|_=>none
def aK(c:Nat)(l:List Nat):Bool:=List.rec false (fun b U ih=>Bool.rec ih true (Nat.beq c b)) l
def Dq(a y:AV):Option Bool:=match a with
 |.none=>ob (jw y) fun U=>some false
 |.str s=>
  ob s.conc fun x=>
  ob (mf y) fun z=>
  some (co z x)
 |_=>none
noncomputable def zx(a:AV):List AV→Option Bool
 |[]=>some false
 |y::r=>
  ob (zx a r) fun t=>
  ob (Dq a y) fun b=>
  some (b ||t)
def t8(β:Bd)(a b:AV):Option Bool:=match a with
 |.int x=>
  ob (eG b) fun y=>
  lD β x y
 |.str x=>
  ob (x.conc) fun i=>
  ob (mf b) fun j=>
  some ((tX i j))
 |_=>none
noncomputable def AR(a b:AV):Option Bool:=match b with|.none=>isNone a|_=>none
def BR(a:AV)(s:SS):Option Bool :=
 ob (I1 a) fun c=>
 ob s.conc fun l=>
 some (aK c l)
def IP(a:AV)(es:List (List Nat×AV)):Option Bool:=ob (mf a) fun x=>some (jT x es).isSome
def C8(σ:St)(a:AV)(k:Nat):Option Bool:=ob (eq σ k) fun xs=>zx a xs
def SU(σ:St)(a b:AV):Option Bool:=match b with
 |.str s=>BR a s
 |.cell k=>C8 σ a k
 |.dict es=>IP a es
 |_=>none
def Tf(a b:AV):Option Bool:=match b with
 |.str s=>nI (BR a s)
 |_=>none
def cmp(β:Bd)(σ:St)(op:CmpOp)(a b:AV):Option Bool:=match op with
 |CmpOp.Eq=>BU β a b
 |.NotEq=>nI (BU β a b)
 |.Is=>AR a b
 |.IsNot=>nI (AR a b)
 |.In=>SU σ a b
 |.NotIn=>Tf a b
 |.Lt=>t8 β a b
 |.Gt=>t8 β b a
 |.LtE=>nI (t8 β b a)
 |.GtE=>nI (t8 β a b)
def gP(β:Bd)(s:SS):Option AV:=match jY β s.len (.k 1000000) with|some true=>some (.str s)|_=>none
noncomputable def jR:Nat→List Nat→List Nat
 |0,_=>[]
 |n+1,l=>l++jR n l
noncomputable def kR(m:Nat):List (Nat×Int)→Bool
 |[]=>true
 |p::r=>Nat.beq (p.2.natAbs % m) 0&&kR m r
noncomputable def CQ:List (List Nat×Nat×List Nat):=[([92,120,37,48,50,88],233,[92,120,69,57])]
noncomputable def xf(f:List Nat)(n:Nat):List (List Nat×Nat×List Nat)→Option (List Nat)
 |[]=>none
 |p::r=>match co p.1 f&&Nat.beq p.2.1 n with|true=>some p.2.2|false=>xf f n r
noncomputable def jr(i:Int):Bool:=Nat.ble i.natAbs 1000000
noncomputable def AM(i:Int):Option Nat:=match i with|.ofNat (n+1)=>some (n+1)|_=>none
def FI(β:Bd)(a b:AV):Option AV:=match a with
 |.int x=>
  ob (eG b) fun y=>
  some (.int (x.add y))
 |.str x=>
  ob (jw b) fun y=>
  gP β (x.app y)
 |_=>none
def yJ(a b:AV):Option AV :=
 ob (eG a) fun x=>
 ob (eG b) fun y=>
 some (.int (x.sub y))
noncomputable def am.smul(x:am)(m:Int):am:=⟨x.c*m,x.l.map fun p=>(p.1,p.2*m)⟩
def Fg(x:am)(b:AV):Option AV :=
 ob (iW b) fun y=>
 gd (jr y) <|
 some (.int (x.smul y))
def y9(β:Bd)(l:List Nat)(m:Int):Option AV:=match m with
 |.ofNat m=>
  gd (jr (.ofNat m)) <|
  gP β (.k (jR m l))
 |.negSucc m=>
  gd (jr (.negSucc m)) <|
  some (.str [])
def H0(β:Bd)(l:List Nat)(n:am):Option AV :=
 ob (kL l) fun ch=>
 ob (lD β n (.k 0)) fun neg=>
 gd (Bool.rec true false neg) <|
 gP β [.rep ch n]
def Gx(β:Bd)(s:SS)(b:AV):Option AV :=
 ob (s.conc) fun l=>
 ob (eG b) fun n=>
 Option.rec (H0 β l n) (fun m=>y9 β l m) n.conc
def FO(β:Bd)(a b:AV):Option AV:=match a with
 |.int x=>Fg x b
 |.str s=>Gx β s b
 |_=>none
noncomputable def am.fdv(x:am)(m:Nat):am:=⟨Int.fdiv x.c (.ofNat m),x.l.map fun p=>(p.1,Int.fdiv p.2 (.ofNat m))⟩
def IV(a b:AV):Option AV :=
 ob (eG a) fun x=>
 ob (iW b) fun y=>
 gd (jr y) <|
 ob (AM y) fun m=>
 gd (kR m x.l) <|
 some (.int (x.fdv m))
def Iv(x:am)(b:AV):Option AV :=
 ob (iW b) fun y=>
 ob (AM y) fun m=>
 gd (kR m x.l) <|
 some (.int (.k (Int.fmod x.c (.ofNat m))))
noncomputable def uN(i:Int):Option Nat:=match i with|.ofNat n=>some n|.negSucc _=>none
def Fb(l:List Nat)(y:Int):Option AV :=
 ob (uN y) fun n=>
 ob (xf l n CQ) fun r=>
 some (.str (.k r))
def Cu(f:SS)(b:AV):Option AV :=
 ob (f.conc) fun l=>
 ob (iW b) fun y=>Fb l y
def DS(a b:AV):Option AV:=match a with
 |.int x=>Iv x b
 |.str f=>Cu f b
 |_=>none
def sY(β:Bd)(op:Operator)(a b:AV):Option AV:=match op with
 |.Add=>FI β a b
 |.Sub=>yJ a b
 |.Mult=>FO β a b
 |.FloorDiv=>IV a b
 |.Mod=>DS a b
 |_=>none
noncomputable def aP{α:Type}:Nat→List α→List α
 |0,_=>[]
 |_+1,[]=>[]
 |n+1,a::r=>a::aP n r
noncomputable def bk{α:Type}:Nat→List α→List α
 |0,l=>l
 |_+1,[]=>[]
 |n+1,_::r=>bk n r
noncomputable def ji(n:Nat)(j:Int):Option Nat:=seqIndex? j n
noncomputable def clip(n:Nat)(i:Int):Nat:=(max 0 (min (if i<0 then i+(n:Int) else i) (n:Int))).toNat
def Ji(l:List Nat)(n:am):Option AV :=
 ob n.conc fun j=>
 ob (ji (aA l) j) fun p=>
 ob (ak l p) fun c=>
 some (.str [.lit [c]])
def Pc.len(p:Pc):am:=match p with|.lit l=>.k (.ofNat (aA l))|.var i=>⟨0,[(2*i+1,1)]⟩|.rep _ n=>n
def kz(o:am)(l:List Nat):Option Nat:=ob o.conc fun i=>match i with|.ofNat k=>Bool.rec none (some k) (Nat.blt k (aA l))|.negSucc _=>none
def E9(p:Pc)(o:am)(rest:Option Nat):Option Nat:=match p with|.lit l=>Option.rec rest (fun k=>ak l k) (kz o l)|_=>rest
def tY(s:SS):am→Option Nat:=List.rec (fun U=>none) (fun p U ih o=>E9 p o (ih (o.sub p.len))) s
def iS(o:am):Bool:=Option.rec false (fun i=>lM i 0) o.conc
def BQ(p:Pc)(r:SS)(o:am)(rest:Option SS):Option SS:=match p with|.lit l=>Option.rec rest (fun k=>some (.lit (bk k l)::r)) (kz o l)|_=>rest
def qf(s:SS):am→Option SS:=List.rec (fun o=>Bool.rec none (some []) (iS o)) (fun p r ih o=>Bool.rec (BQ p r o (ih (o.sub p.len))) (some (p::r)) (iS o)) s
def yN(p:Pc)(o:am)(rest:Option SS):Option SS:=match p with|.lit l=>Option.rec (ob rest fun t=>some (.lit l::t)) (fun k=>some [.lit (aP k l)]) (kz o l)|p=>ob rest fun t=>some (p::t)
def pC(s:SS):am→Option SS:=List.rec (fun o=>Bool.rec none (some []) (iS o)) (fun p U ih o=>Bool.rec (yN p o (ih (o.sub p.len))) (some []) (iS o)) s
def mU(s:SS)(n:am):am:=Option.rec n (fun i=>match i with|.ofNat _=>n|.negSucc _=>s.len.add n) n.conc
def Cq(s:SS)(n:am):Option AV:=ob (tY s (mU s n)) fun c=>some (.str [.lit [c]])
def BD(s:SS)(n:am):Option AV:=Option.rec (Cq s n) (fun l=>Ji l n) s.conc
def C2(σ:St)(k:Nat)(n:am):Option AV :=
 ob (eq σ k) fun xs=>
 ob n.conc fun j=>
 ob (ji (aA xs) j) fun p=>
 ak xs p
def Gy(xs:List AV)(n:am):Option AV :=
 ob n.conc fun j=>
 gd (jr j) <|
 ob (ji (aA xs) j) fun p=>
 ak xs p
def EN(_β:Bd)(σ:St)(v i:AV):Option AV:=match v with
 |.str s=>ob (eG i) fun n=>BD s n
 |.cell k=>ob (eG i) fun n=>C2 σ k n
 |.tup xs=>ob (eG i) fun n=>Gy xs n
 |.dict es=>ob (mf i) fun x=>jT x es
 |_=>none
def cut{α:Type}(l:List α)(lo hi:Option Int):List α :=
 let n:=aA l
 let a:=match lo with|some i=>clip n i|none=>0
 let b:=match hi with|some i=>clip n i|none=>n
 aP (b-a) (bk a l)
def sD(v:Option AV):Option (Option Int):=Option.rec (some none) (fun v=>ob (iW v) fun i=>some (some i)) v
mutual
noncomputable def fH(n:Nat):AV→Bool
 |.cell k=>Nat.blt k n
 |.tup xs=>lJ n xs
 |.obj _ fs=>ko n fs
 |.meth _ s=>fH n s
 |.dict es=>qC n es
 |_=>true
noncomputable def lJ(n:Nat):List AV→Bool
 |[]=>true
 |x::r=>match fH n x with|true=>lJ n r|false=>false
noncomputable def qC(n:Nat):List (List Nat×AV)→Bool
 |[]=>true
 |x::r=>match fH n x.2 with|true=>qC n r|false=>false
noncomputable def ko(n:Nat):List (Str×AV)→Bool
 |[]=>true
 |x::r=>match fH n x.2 with|true=>ko n r|false=>false
end
noncomputable def py(n:Nat):aw→Bool
 |.list xs=>lJ n xs
 |.rows _ _=>true
 |.inst _ fs=>ko n fs
 |.any _=>true
noncomputable def kD(n:Nat):List aw→Bool
 |[]=>true
 |c::r=>match py n c with|true=>kD n r|false=>false
def iM(n:Nat)(v:AV)(σ:St):St:=match Nat.beq (aA σ) n with
 |true=>σ
 |false=>match fH n v with
  |false=>σ
  |true=>match kD n (aP n σ) with
   |true=>aP n σ
   |false=>σ
noncomputable def lK{α:Type}(names:List Str):List (Str×α)→List (Str×α)→Bool
 |_,[]=>true
 |sl,(k,v)::r=>match jD k names with
  |true=>match lk k sl with
   |none=>lK names (sl++[(k,v)]) r
   |some _=>false
  |false=>false
noncomputable def gT{α:Type}:List (Str×α)→List (Str×α)→List (Str×α)
 |sl,[]=>sl
 |sl,(x,d)::r=>match lk x sl with
  |none=>gT (sl++[(x,d)]) r
  |some _=>gT sl r
noncomputable def eW{α:Type}(sl:List (Str×α)):List Str→List (Str×α)
 |[]=>[]
 |x::r=>match lk x sl with
  |some v=>(x,v)::eW sl r
  |none=>eW sl r
noncomputable def mo{α:Type}(sl:List (Str×α)):List Str→Bool
 |[]=>true
 |x::r=>match lk x sl with|some _=>mo sl r|none=>false
def iY{α:Type}(names:List Str)(dflt pos:List α)(kw:List (Str×α)):Option (List (Str×α)) :=
 gd (Nat.ble (aA pos) (aA names)) <|
 gd (Nat.ble (aA dflt) (aA names)) <|
 gd (lK names (names.zip pos) kw) <|
 gd (mo (names.zip pos++kw) (aP (aA names-aA dflt) names)) <|
 some ((eW (gT (names.zip pos++kw) ((bk (aA names-aA dflt) names).zip dflt)) names))
inductive It where
 |lst (k i:Nat)
 |vals (l:List AV)
noncomputable def uB:Nat→Nat→List AV
 |_,0=>[]
 |i,n+1=>.int (.k (.ofNat i))::uB (i+1) n
def sP(σ:St)(v:AV):Option It:=match v with
 |.cell k=>ob (eq σ k) fun U=>some (.lst k 0)
 |.str s=>ob s.conc fun l=>some (.vals (l.map fun c=>.str [.lit [c]]))
 |.rng n=>some (.vals (uB 0 n))
 |_=>none
def sd(k i:Nat)(xs:List AV):Option (AV×It):=ob (ak xs i) fun v=>some (v,.lst k (i+1))
def Bi(l:List AV):Option (AV×It):=List.rec none (fun v r U=>some (v,.vals r)) l
def kJ(σ:St)(i:It):Option (Option (AV×It)):=match i with
 |.lst k i=>ob (eq σ k) fun xs=>some (sd k i xs)
 |.vals l=>some (Bi l)
noncomputable def vJ(v:AV):Bool:=match v with|.bi _=>false|.any _=>false|_=>true
def wL(k:Nat)(x:Str)(c:CI):Option AV:=match lk x c.meths with
 |some f=>some (.meth f (.cell k))
 |none=>lk x c.consts
def Bl(fs:List (Str×AV))(x:Str):Option AV :=
 ob (lk x fs) fun v=>
 gd (vJ v) <|
 some v
def zX(Y:Pi)(σ:St)(k:Nat)(x:Str):Option AV :=
 obp (mL σ k) fun C fs=>
 Option.rec (ob (Y.ci C) fun c=>wL k x c) (fun v=>gd (vJ v) (some v)) (lk x fs)
def mn(Y:Pi)(σ:St)(v:AV)(x:Str):Option AV:=match v with
 |.cell k=>zX Y σ k x
 |.obj _ fs=>Bl fs x
 |_=>none
def FV(Y:Pi)(C:Addr)(fs:List (Str×AV))(x:Str):Bool:=match lk x fs with
 |some _=>true
 |none=>match Y.ci C with
  |some c=>jD x c.flds
  |none=>false
def AU(Y:Pi)(σ:St)(k:Nat)(x:Str)(v:AV):Option St :=
 obp (mL σ k) fun C fs=>
 gd (FV Y C fs x) <|
 gd (Nat.ble (aA fs) 900) <|
 some (dS σ k (.inst C (put x v fs)))
def nb(Y:Pi)(D C:Addr):Option Bool :=
 ob (Y.ci D) fun c=>
 ob (Y.ci C) fun U=>
 some ((c.mro.any (Nat.beq C)))
def o6(Y:Pi)(σ:St)(v:AV)(C:Addr):Option Bool:=match v with
 |.obj D _=>nb Y D C
 |.cell k=>obp (mL σ k) fun D U=>nb Y D C
 |_=>none
noncomputable def Hl(v:AV):Option Addr:=match v with|.cls C=>some C|_=>none
noncomputable def sN(Y:Pi)(σ:St)(v:AV):List AV→Option Bool
 |[]=>some false
 |c::r=>
  ob (Hl c) fun C=>
  ob (o6 Y σ v C) fun b=>
  Bool.rec (sN Y σ v r) (some true) b
noncomputable def wH(sep:SS):List AV→Option SS
 |[]=>some []
 |a::r=>
  ob (jw a) fun s=>
  ob (wH sep r) fun t=>
  some (Bool.rec (s.app (sep.app t)) s (aF r))
def F1(σ:St)(v:AV):Option am:=match v with
 |.str s=>some s.len
 |.cell k=>ob (eq σ k) fun xs=>some (.k (.ofNat (aA xs)))
 |.tup xs=>gd (Nat.ble (aA xs) 1000000) <|some (.k (.ofNat (aA xs)))
 |_=>none
def new(σ:St)(c:aw):AV×St:=(.cell (aA σ),σ++[c])
def Aj(Y:Pi)(x:Str):Option BM:=Bool.rec (Bool.rec none (some .pop) (seq x (Y.nm 1))) (some .append) (seq x (Y.nm 0))
noncomputable def BZ(c:aw):Bool:=match c with|.list _=>true|.rows _ _=>true|_=>false
def DQ(Y:Pi)(x:Str):Option BM:=Bool.rec (Bool.rec none (some .starts) (seq x (Y.nm 3))) (some .join) (seq x (Y.nm 2))
def Cr(Y:Pi)(x:Str):Option BM:=Bool.rec none (some .copy) (seq x (Y.nm 4))
def zu(Y:Pi)(σ:St)(o:AV)(x:Str):Option BM:=match o with
 |.cell k=>ob (ak σ k) fun c=>gd (BZ c) <|Aj Y x
 |.str _=>DQ Y x
 |.dict _=>Cr Y x
 |_=>none
noncomputable def gw(x:List Nat):List (List Nat×AV)→Bool
 |[]=>false
 |p::r=>match co p.1 x with|true=>true|false=>gw x r
noncomputable def jj:List (List Nat×AV)→Bool
 |[]=>true
 |p::r=>!gw p.1 r&&jj r
def GF(β:Bd)(σ:St)(k:Nat)(v:AV)(c:aw):Option (AV×St):=match c with
 |.list xs=>
  gd (Nat.ble (aA xs) 100000) <|
  some (.none,dS σ k (.list (xs++[v])))
 |.rows t n=>
  ob (jw v) fun s=>
  ob (jY β n (.k 1000000)) fun b=>
  gd b <|
  some (.none,dS σ k (.rows (t.app s) (n.add (.k 1))))
 |_=>none
def Dm(β:Bd)(σ:St)(o:AV)(as:List AV):Option (AV×St) :=
 ob (ib o) fun k=>
 ob (kL as) fun v=>
 ob (ak σ k) fun c=>
 GF β σ k v c
def GG(σ:St)(k:Nat)(xs:List AV):Option (AV×St) :=
 ob (ji (aA xs) (-1)) fun p=>
 ob (ak xs p) fun v=>
 some (v,dS σ k (.list (aP p xs)))
def Dx(σ:St)(k:Nat)(xs:List AV)(i:AV):Option (AV×St) :=
 ob (iW i) fun j=>
 gd (lM j 0) <|
 List.rec none (fun v r U=>some (v,dS σ k (.list r))) xs
def Hs(σ:St)(o:AV)(as:List AV):Option (AV×St) :=
 ob (ib o) fun k=>
 ob (eq σ k) fun xs=>
 match as with
 |[]=>GG σ k xs
 |[i]=>Dx σ k xs i
 |_=>none
def GK(Y:Pi)(σ:St)(s:List Nat)(c:aw):Option (AV×St):=match c with
 |.list xs=>
  ob (wH (.k s) xs) fun t=>
  ob (gP Y.β t) fun r=>
  some (r,σ)
 |.rows t n=>
  gd (aF s) <|
  ob (gP Y.β t) fun r=>
  some (r,σ)
 |_=>none
def FL(Y:Pi)(σ:St)(o:AV)(as:List AV):Option (AV×St) :=
 ob (mf o) fun s=>
 gd (Nat.ble (aA s) 1000) <|
 ob (kL as) fun a=>
 ob (ib a) fun k=>
 ob (ak σ k) fun c=>
 GK Y σ s c
def BP(p:List Nat):List Nat→Bool→Option Bool:=List.rec (fun U U=>some true) (fun b U ih l e=>List.rec (Bool.rec none (some false) e) (fun a r U=>Bool.rec (some false) (ih r e) (Nat.beq b a)) l) p
def Hb(p:List Nat)(s:SS):Option Bool:=match s with
 |.lit l::r=>BP p l (aF r)
 |[]=>some (aF p)
 |_=>none
def DC(σ:St)(o:AV)(as:List AV):Option (AV×St) :=
 ob (jw o) fun s=>
 ob (kL as) fun p=>
 ob (mf p) fun p=>
 ob (Hb p s) fun b=>
 some (.bool b,σ)
def GD(σ:St)(o:AV)(as:List AV):Option (AV×St) :=
 ob (HE o) fun es=>
 gd (aF as&&(jj es&&Nat.ble (aA es) 1000)) <|
 some (.dict es,σ)
def bm(Y:Pi)(σ:St)(id:BM)(o:AV)(as:List AV):Option (AV×St):=match id with
 |.append=>Dm Y.β σ o as
 |.pop=>Hs σ o as
 |.join=>FL Y σ o as
 |.starts=>DC σ o as
 |.copy=>GD σ o as
def GV(σ:St)(as:List AV):Option (AV×St) :=
 ob (kL as) fun v=>
 ob (F1 σ v) fun l=>
 some (.int l,σ)
def Js(Y:Pi)(σ:St)(v t:AV):Option (AV×St):=match t with
 |.cls C=>
  ob (o6 Y σ v C) fun b=>
  some (.bool b,σ)
 |.tup cs=>
  gd (Bool.rec true false (aF cs)) <|
  ob (sN Y σ v cs) fun b=>
  some (.bool b,σ)
 |_=>none
def Fk(Y:Pi)(σ:St)(as:List AV):Option (AV×St):=match as with
 |[v,t]=>Js Y σ v t
 |_=>none
def HT(σ:St)(as:List AV):Option (AV×St) :=
 ob (kL as) fun v=>
 ob (mf v) fun l=>
 ob (kL l) fun c=>
 some (.int (.k (.ofNat c)),σ)
def G7(σ:St)(as:List AV):Option (AV×St) :=
 ob (kL as) fun v=>
 ob (iW v) fun i=>
 ob (uN i) fun n=>
 gd (Nat.ble n 1000) <|
 some (.rng n,σ)
def HM(σ:St)(as:List AV):Option (AV×St) :=
 ob (kL as) fun v=>
 ob (iW v) fun i=>
 ob (uN i) fun n=>
 gd (Nat.blt n 10) <|
 some (.str [.lit [n+48]],σ)
def TH(β:Bd)(σ:St)(a b:AV):Option (AV×St) :=
 ob (eG a) fun x=>
 ob (eG b) fun y=>
 ob (lD β x y) fun t=>
 some (.int (Bool.rec x y t),σ)
def Dl(β:Bd)(σ:St)(as:List AV):Option (AV×St):=match as with
 |[a,b]=>TH β σ a b
 |_=>none
def bf(Y:Pi)(σ:St)(f:BF)(as:List AV):Option (AV×St):=match f with
 |.len=>GV σ as
 |.isi=>Fk Y σ as
 |.ord=>HT σ as
 |.range=>G7 σ as
 |.str=>HM σ as
 |.max=>Dl Y.β σ as
 |.enum=>none
def uG(x:Str)(sc:List (Str×NameKind)):Bool:=match lk x sc with|some .globalImplicit=>true|_=>false
def qE(x:Str)(sc:List (Str×NameKind)):Bool:=match lk x sc with|some .local=>true|_=>false
def Au(ls:ac)(x:Str)(v:AV):Option ac :=
 gd (qE x ls.sc) <|
 some ({ls with v:=put x v ls.v})
noncomputable def DW(v:AV):Bool:=match v with|.meth _ _=>true|_=>false
inductive EV where
 |con (c:Const)
 |name (x:Str) (p:Pos)
 |attr (o:Expr) (x:Str) (p:Pos)
 |bool (op:BoolOp) (vs:List Expr)
 |un (op:UnaryOp) (e:Expr)
 |ife (t b o:Expr)
 |bin (l:Expr) (op:Operator) (r:Expr)
 |cmp (l:Expr) (ops:List CmpOp) (rs:List Expr)
 |tup (es:List Expr)
 |lst (es:List Expr)
 |sub (o s:Expr)
 |slice (lo hi st:Option Expr)
 |call (f:Expr) (as:List Expr) (ks:List Keyword) (pos:Pos)
 |comp (e t it:Expr) (sc:Scope)
 |dict (ks:List (Option Expr)) (vs:List Expr)
 |other
noncomputable def i7(e:Expr)(sc:Scope)(gs:List Comprehension):EV:=match gs with
 |[⟨t,it,[],.ofNat 0⟩]=>.comp e t it sc
 |_=>.other
noncomputable def vE(e:Expr):EV:=match e with
 |.Constant c _ _=>.con c
 |.Name x p=>.name x p
 |.Attribute o x p=>.attr o x p
 |.BoolOp op vs _=>.bool op vs
 |.UnaryOp op e _=>.un op e
 |.IfExp t b o _=>.ife t b o
 |.BinOp l op r _=>.bin l op r
 |.Compare l ops rs _=>.cmp l ops rs
 |.Tuple es _ _=>.tup es
 |.List es _=>.lst es
 |.Subscript o s _=>.sub o s
 |.Slice lo hi st _=>.slice lo hi st
 |.Call f as ks pos=>.call f as ks pos
 |.ListComp e gs sc _=>i7 e sc gs
 |.Dict ks vs _=>.dict ks vs
 |_=>.other
inductive SV where
 |exp (e:Expr)
 |pass
 |ret (e:Option Expr)
 |asg (ts:List Expr) (e:Expr)
 |aug (t:Expr) (op:Operator) (e:Expr)
 |ife (t:Expr) (b o:List Stmt)
 |wh (t:Expr) (b o:List Stmt)
 |fo (t it:Expr) (b o:List Stmt)
 |other
noncomputable def vS(s:Stmt):SV:=match s with
 |.Expr e _=>.exp e
 |.Pass _=>.pass
 |.Return e _=>.ret e
 |.Assign ts e _=>.asg ts e
 |.AugAssign t op e _=>.aug t op e
 |.If t b o _=>.ife t b o
 |.While t b o _=>.wh t b o
 |.For t it b o _=>.fo t it b o
 |_=>.other
noncomputable def qK(e:Expr):Bool:=match vE e with|.other=>false|.comp _ _ _ _=>false|.dict _ _=>false|_=>true
noncomputable def qA(e:Expr):Bool:=match vE e with|.call _ _ _ _=>false|.comp _ _ _ _=>false|.dict _ _=>false|.other=>false|_=>true
noncomputable def mc(e:Expr):Bool:=qK e
noncomputable def hK(e:Expr):Bool:=match vE e with|.other=>false|.dict _ _=>false|_=>true
noncomputable def tD(e:Expr):Bool:=qK e
noncomputable def Rk(e:Expr):Bool:=match vE e with|.tup vs=>vs.all (foldedForSure 8)|_=>true
noncomputable def Id(ts:List Expr)(e:Expr):Bool:=match ts with
 |[t]=>match vE t with
  |.tup _=>Rk e
  |.lst _=>false
  |_=>true
 |_=>true
noncomputable def xO(ts:List Expr)(e:Expr):Bool:=qK e&&Id ts e
noncomputable def yG(op:Operator):Bool:=match op with|.Add=>true|.Sub=>true|_=>false
noncomputable def Mq(e:Expr):Bool:=qK e&&match vE e with|.slice _ _ _=>false|_=>true
noncomputable def ie(e:Expr):Bool:=match vE e with|.name _ _=>true|.tup _=>true|_=>false
noncomputable def Bq(op:BoolOp)(b:Bool):Bool:=match op with|.And=>!b|.Or=>b
def xX:Const→Option AV
 |.none=>some .none
 |.bool b=>some (.bool b)
 |.int i=>some (.int (.k i))
 |.str s=>match Nat.ble (aA s.cps.toList) 1000000 with|true=>some (.str (.k s.cps.toList))|false=>none
 |_=>none
structure aR where
 ev:ac→St→Expr→Option (AV×St)
 evo:ac→St→Option Expr→Option (Option AV×St)
 evs:ac→St→List Expr→Option (List AV×St)
 evk:ac→St→List Keyword→Option (List (Str×AV)×St)
 bl:ac→St→BoolOp→List Expr→Option (AV×St)
 cc:ac→St→AV→List CmpOp→List Expr→Option (Bool×St)
 tst:ac→St→Expr→Option (Bool×St)
 tb:ac→St→BoolOp→List Expr→Option (Bool×St)
 cl:St→AV→List AV→List (Str×AV)→Option (AV×St)
 cf:St→Addr→List AV→List (Str×AV)→Option (AV×St)
 exs:ac→St→List Stmt→Option (Fl×ac×St)
 asg:ac→St→AV→Expr→Option (ac×St)
 asgs:ac→St→List AV→List Expr→Option (ac×St)
 asgm:ac→St→AV→List Expr→Option (ac×St)
 ex:ac→St→Stmt→Option (Fl×ac×St)
 wh:ac→St→Expr→List Stmt→Option (Fl×ac×St)
 fo:ac→St→Expr→It→List Stmt→Option (Fl×ac×St)
noncomputable def aR.bot:aR where
 ev:=fun U U U=>none
 evo:=fun U U U=>none
 evs:=fun U U U=>none
 evk:=fun U U U=>none
 bl:=fun U U U U=>none
 cc:=fun U U U U U=>none
 tst:=fun U U U=>none
 tb:=fun U U U U=>none
 cl:=fun U U U U=>none
 cf:=fun U U U U=>none
 exs:=fun U U U=>none
 asg:=fun U U U U=>none
 asgs:=fun U U U U=>none
 asgm:=fun U U U U=>none
 ex:=fun U U U=>none
 wh:=fun U U U U=>none
 fo:=fun U U U U U=>none
def Ax(Y:Pi)(ls:ac)(σ:St)(x:Str):Option (AV×St):=match lk x ls.v with
 |some v=>some (v,σ)
 |none=>
  gd (uG x ls.sc) <|
  ob (Y.glob x) fun v=>
  some ((v,σ))
def GA(Y:Pi)(R:aR)(ls:ac)(σ:St)(o:Expr)(x:Str):Option (AV×St) :=
 gd (qA o) <|
 obp (R.ev ls σ o) fun v σ=>
 ob (mn Y σ v x) fun r=>
 some ((r,σ))
def IL(Y:Pi)(R:aR)(ls:ac)(σ:St)(e:Expr):Option (AV×St) :=
 obp (R.ev ls σ e) fun v σ=>
 ob (u3 Y.β σ v) fun b=>
 some ((.bool !b,σ))
noncomputable def Rd(σ:St)(c:Const):Option (AV×St):=match c with
 |.int i=>some (.int (.k (-i)),σ)
 |_=>none
def xM(Y:Pi)(R:aR)(ls:ac)(σ:St)(op:UnaryOp)(e:Expr):Option (AV×St):=match op with
 |.USub=>match vE e with
  |.con c=>Rd σ c
  |_=>none
 |.Not=>IL Y R ls σ e
 |_=>none
def Db(R:aR)(ls:ac)(σ:St)(t b o:Expr):Option (AV×St) :=
 obp (R.tst ls σ t) fun c σ=>
 match c with
 |true=>R.ev ls σ b
 |false=>R.ev ls σ o
def F7(σ:St)(i:Nat)(b:AV):Option (AV×St) :=
 ob (ib b) fun j=>
 ob (eq σ i) fun x=>
 ob (eq σ j) fun y=>
 gd (Nat.ble (aA x+aA y) 100000) <|
 some ((new σ (.list (x++y))))
noncomputable def jU(n:Nat)(l:List AV):List AV:=Nat.rec [] (fun U ih=>l++ih) n
noncomputable def ql(i:Int):Nat:=match i with|.ofNat n=>n|.negSucc _=>0
def EC(σ:St)(i:Nat)(b:AV):Option (AV×St) :=
 ob (iW b) fun j=>
 ob (eq σ i) fun x=>
 gd (jr j) <|
 gd (Nat.ble (aA x*ql j) 100000) <|
 some ((new σ (.list (jU (ql j) x))))
def QV(op:Operator)(σ:St)(i:Nat)(b:AV):Option (AV×St):=match op with
 |.Add=>F7 σ i b
 |.Mult=>EC σ i b
 |_=>none
def GX(Y:Pi)(op:Operator)(a b:AV)(σ:St):Option (AV×St):=ob (sY Y.β op a b) fun r=>some (r,σ)
def Hf(Y:Pi)(R:aR)(ls:ac)(σ:St)(l:Expr)(op:Operator)(r:Expr):Option (AV×St) :=
 obp (R.ev ls σ l) fun a σ=>
 obp (R.ev ls σ r) fun b σ=>
 Option.rec (GX Y op a b σ) (fun i=>QV op σ i b) (ib a)
def Fp(R:aR)(ls:ac)(σ:St)(l:Expr)(ops:List CmpOp)(rs:List Expr):Option (AV×St) :=
 obp (R.ev ls σ l) fun a σ=>
 obp (R.cc ls σ a ops rs) fun b σ=>
 some ((.bool b,σ))
def Cg(R:aR)(ls:ac)(σ:St)(es:List Expr):Option (AV×St) :=
 obp (R.evs ls σ es) fun vs σ=>
 gd (Nat.ble (aA vs) 100000) <|
 some ((.tup vs,σ))
def HD(R:aR)(ls:ac)(σ:St)(es:List Expr):Option (AV×St) :=
 obp (R.evs ls σ es) fun vs σ=>
 gd (Nat.ble (aA vs) 100000) <|
 some ((new σ (.list vs)))
def Eh(l:List Nat)(a b:Option AV)(σ:St):Option (AV×St) :=
 ob (sD a) fun a=>
 ob (sD b) fun b=>
 some (.str (.k (cut l a b)),σ)
def zO(s:SS)(d:am)(v:Option AV):Option am:=Option.rec (some d) (fun v=>ob (eG v) fun n=>some (mU s n)) v
def EL(s:SS)(a b:Option AV)(σ:St):Option (AV×St) :=
 ob (zO s (.k 0) a) fun i=>
 ob (zO s s.len b) fun j=>
 ob (qf s i) fun t=>
 ob (pC t (j.sub i)) fun r=>
 some (.str r,σ)
def A9(v:AV)(a b:Option AV)(σ:St):Option (AV×St) :=
 ob (jw v) fun s=>
 Option.rec (EL s a b σ) (fun l=>Eh l a b σ) s.conc
def t6(k:Nat)(a b:Option AV)(σ:St):Option (AV×St) :=
 ob (sD a) fun a=>
 ob (sD b) fun b=>
 ob (eq σ k) fun xs=>
 some (new σ (.list (cut xs a b)))
def BV(R:aR)(ls:ac)(σ:St)(o:Expr)(lo hi st:Option Expr):Option (AV×St) :=
 obp (R.ev ls σ o) fun v σ=>
 gd st.isNone <|
 obp (R.evo ls σ lo) fun a σ=>
 obp (R.evo ls σ hi) fun b σ=>
 Option.rec (A9 v a b σ) (fun k=>t6 k a b σ) (ib v)
def Ga(Y:Pi)(R:aR)(ls:ac)(σ:St)(o s:Expr):Option (AV×St) :=
 obp (R.ev ls σ o) fun v σ=>
 obp (R.ev ls σ s) fun i σ=>
 ob (EN Y.β σ v i) fun r=>
 some ((r,σ))
def yj(Y:Pi)(R:aR)(ls:ac)(σ:St)(o s:Expr):Option (AV×St):=match vE s with
 |.slice lo hi st=>BV R ls σ o lo hi st
 |_=>Ga Y R ls σ o s
def vn(R:aR)(ls:ac)(σ:St)(fv:AV)(as:List Expr)(ks:List Keyword):Option (AV×St) :=
 gd (DW fv) <|
 obp (R.evs ls σ as) fun vs σ=>
 obp (R.evk ls σ ks) fun kw σ=>
 R.cl σ fv vs kw
def wD(Y:Pi)(R:aR)(ls:ac)(σ:St)(ov:AV)(x:Str)(as:List Expr)(ks:List Keyword):Option (AV×St) :=
 ob (zu Y σ ov x) fun id=>
 obp (R.evs ls σ as) fun vs σ=>
 gd (ks.isEmpty) <|
 bm Y σ id ov vs
def BW(Y:Pi)(R:aR)(ls:ac)(σ:St)(o:Expr)(x:Str)(apos:Pos)(as:List Expr)(ks:List Keyword)(pos:Pos):Option (AV×St) :=
 gd (qA o&&Nat.beq apos.endLine pos.line&&Nat.blt (aA as+aA ks+1) 30) <|
 obp (R.ev ls σ o) fun ov σ=>
 match mn Y σ ov x with
 |some fv=>vn R ls σ fv as ks
 |none=>wD Y R ls σ ov x as ks
def xV(R:aR)(ls:ac)(σ:St)(x:Str)(p:Pos)(as:List Expr)(ks:List Keyword):Option (AV×St) :=
 obp (R.ev ls σ (.Name x p)) fun fv σ=>
 obp (R.evs ls σ as) fun vs σ=>
 obp (R.evk ls σ ks) fun kw σ=>
 R.cl σ fv vs kw
def yD(Y:Pi)(R:aR)(ls:ac)(σ:St)(f:Expr)(as:List Expr)(ks:List Keyword)(pos:Pos):Option (AV×St):=match vE f with
 |.attr o x apos=>BW Y R ls σ o x apos as ks pos
 |.name x p=>xV R ls σ x p as ks
 |_=>none
def IX(σ:St)(c:Const):Option (AV×St) :=
 ob (xX c) fun v=>
 some ((v,σ))
def Ad(R:aR)(sc:List (Str×NameKind))(t e:Expr)(k:Nat)(f:List AV):It→St→Option St:=List.rec (fun U U=>none) (fun U U ih i σ=>
 ob (kJ σ i) fun x=>Option.rec (some σ) (fun p=>Prod.rec (fun v j=>
  obp (R.asg ⟨[],sc⟩ σ v t) fun ls σ=>
  obp (R.ev ls σ e) fun y σ=>
  ob (eq σ k) fun xs=>
  gd (Nat.ble (aA xs) 1000) <|
  ih j (dS σ k (.list (xs++[y])))) p) x) f
def tL(sc:List (Str×NameKind))(p:Str×NameKind):Bool:=match p.2 with|.local=>qE p.1 sc|.globalImplicit=>true|_=>false
def uH(sc:Scope):Bool:=(match sc.kind with|.function=>true|_=>false)&&(sc.names.all (tL sc.names)&&Option.isNone (lk ("__debug__" : Str) sc.names))
def C1(R:aR)(ls:ac)(σ:St)(e t it:Expr)(sc:Scope):Option (AV×St) :=
 gd (uH sc&&(mc it&&ie t)) <|
 obp (R.ev ls σ it) fun v σ=>
 ob (ib v) fun k=>
 ob (eq σ k) fun xs=>
 ob (Ad R sc.names t e (aA σ) (.none::xs) (.lst k 0) (σ++[.list []])) fun σ'=>
 some (.cell (aA σ),σ')
noncomputable def zS(e:Expr):Option (List Nat):=match e with
 |.Constant (.str s) _ _=>some s.cps.toList
 |_=>none
noncomputable def uz:List (Option Expr)→List Expr→Option (List (List Nat×List Nat))
 |[],[]=>some []
 |some k::ks,v::vs=>ob (zS k) fun a=>ob (zS v) fun b=>ob (uz ks vs) fun r=>some ((a,b)::r)
 |_,_=>none
def Il(σ:St)(ks:List (Option Expr))(vs:List Expr):Option (AV×St) :=
 ob (uz ks vs) fun l=>
 gd (Nat.blt 0 (aA l)&&(Nat.ble (aA l) 15&&l.all fun p=>Nat.ble (aA p.1) 1000&&Nat.ble (aA p.2) 1000)) <|
 gd (jj (l.map fun p=>(p.1,.none))) <|
 some (.dict (l.map fun p=>(p.1,.str (.k p.2))),σ)
def ye(Y:Pi)(R:aR)(ls:ac)(σ:St)(e:Expr):Option (AV×St):=match vE e with
 |.con c=>IX σ c
 |.name x _=>Ax Y ls σ x
 |.attr o x _=>GA Y R ls σ o x
 |.bool op vs=>R.bl ls σ op vs
 |.un op e=>xM Y R ls σ op e
 |.ife t b o=>Db R ls σ t b o
 |.bin l op r=>Hf Y R ls σ l op r
 |.cmp l ops rs=>Fp R ls σ l ops rs
 |.tup es=>Cg R ls σ es
 |.lst es=>HD R ls σ es
 |.sub o s=>yj Y R ls σ o s
 |.slice _ _ _=>none
 |.call f as ks pos=>yD Y R ls σ f as ks pos
 |.comp e' t it sc=>C1 R ls σ e' t it sc
 |.dict ks vs=>Il σ ks vs
 |.other=>none
def yU(Y:Pi)(R:aR):ac→St→Option Expr→Option (Option AV×St):=fun ls σ e=>match e with
 |none=>some (none,σ)
 |some e=>
  obp (R.ev ls σ e) fun v σ=>
  some ((some v,σ))
def A8(Y:Pi)(R:aR):ac→St→List Expr→Option (List AV×St):=fun ls σ es=>match es with
 |[]=>some ([],σ)
 |e::r=>
  gd (hK e) <|
  obp (R.ev ls σ e) fun v σ=>
  obp (R.evs ls σ r) fun vs σ=>
  some ((v::vs,σ))
def zz(Y:Pi)(R:aR):ac→St→List Keyword→Option (List (Str×AV)×St):=fun ls σ ks=>match ks with
 |[]=>some ([],σ)
 |k::r=>
  ob (k.arg) fun x=>
  obp (R.ev ls σ k.value) fun v σ=>
  obp (R.evk ls σ r) fun vs σ=>
  some (((x,v)::vs,σ))
def AO(Y:Pi)(R:aR):ac→St→BoolOp→List Expr→Option (AV×St):=fun ls σ op es=>match es with
 |[]=>none
 |e::r=>match r with
  |[]=>R.ev ls σ e
  |r=>
   obp (R.ev ls σ e) fun v σ=>
   ob (u3 Y.β σ v) fun b=>
   match Bq op b with
   |true=>some (v,σ)
   |false=>R.bl ls σ op r
def Ae(Y:Pi)(R:aR):ac→St→AV→List CmpOp→List Expr→Option (Bool×St):=fun ls σ a ops rs=>match ops,rs with
 |op::ops,r::rs=>
  gd (mc r) <|
  obp (R.ev ls σ r) fun b σ=>
  ob (cmp Y.β σ op a b) fun t=>
  Bool.rec (Bool.rec (some (false,σ)) (R.cc ls σ b ops rs) t) (some (t,σ)) (aF ops&&aF rs)
 |_,_=>none
def Pd(R:aR)(ls:ac)(σ:St)(op:UnaryOp)(e:Expr):Option (Bool×St):=match op with
 |.Not=>
  obp (R.tst ls σ e) fun b σ=>
  some ((!b,σ))
 |_=>none
def GH(R:aR)(ls:ac)(σ:St)(l:Expr)(ops:List CmpOp)(rs:List Expr):Option (Bool×St) :=
 obp (R.ev ls σ l) fun a σ=>
 R.cc ls σ a ops rs
def HR(Y:Pi)(R:aR)(ls:ac)(σ:St)(e:Expr):Option (Bool×St) :=
 obp (R.ev ls σ e) fun v σ=>
 ob (u3 Y.β σ v) fun b=>
 some ((b,σ))
def yk(Y:Pi)(R:aR)(ls:ac)(σ:St)(e:Expr):Option (Bool×St):=match vE e with
 |.bool op vs=>R.tb ls σ op vs
 |.un op e'=>Pd R ls σ op e'
 |.cmp l ops rs=>GH R ls σ l ops rs
 |.ife _ _ _=>none
 |_=>HR Y R ls σ e
def yL(Y:Pi)(R:aR):ac→St→BoolOp→List Expr→Option (Bool×St):=fun ls σ op es=>match es with
 |[]=>none
 |e::r=>match r with
  |[]=>R.tst ls σ e
  |r=>
   obp (R.tst ls σ e) fun b σ=>
   match Bq op b with
   |true=>some (b,σ)
   |false=>R.tb ls σ op r
def Ch(σ σ':St)(C:Addr):Option (AV×St) :=
 obp (mL σ' (aA σ)) fun D fs=>
 gd (Nat.beq D C) <|
 gd (Nat.beq (aA σ') (aA σ+1)) <|
 gd (ko (aA σ) fs) <|
 gd (kD (aA σ) (aP (aA σ) σ')) <|
 some (.obj C fs,aP (aA σ) σ')
noncomputable def UF(r:AV):Bool:=match r with|.none=>true|_=>false
def Ft(R:aR)(σ:St)(C:Addr)(vs:List AV)(kw:List (Str×AV))(c:CI)(f:Addr):Option (AV×St) :=
 obp (R.cf (σ++[.inst C []]) f (.cell (aA σ)::vs) kw) fun r σ'=>
 gd (UF r) <|
 Bool.rec (some (.cell (aA σ),σ')) (Ch σ σ' C) c.frozen
def F9(Y:Pi)(R:aR)(σ:St)(C:Addr)(vs:List AV)(kw:List (Str×AV)):Option (AV×St) :=
 ob (Y.ci C) fun c=>ob c.init fun f=>Ft R σ C vs kw c f
def Gp(Y:Pi)(σ:St)(v:BF)(vs:List AV)(kw:List (Str×AV)):Option (AV×St):=gd kw.isEmpty (bf Y σ v vs)
def nC(Y:Pi)(R:aR)(σ:St)(fv:AV)(vs:List AV)(kw:List (Str×AV)):Option (AV×St):=match fv with
 |.fn f=>R.cf σ f vs kw
 |.meth f self=>R.cf σ f (self::vs) kw
 |.cls C=>F9 Y R σ C vs kw
 |.bi v=>Gp Y σ v vs kw
 |_=>none
def Na(σ:St)(r:Fl)(σ':St):Option (AV×St):=match r with
 |.ret v=>some (v,iM (aA σ) v σ')
 |.next=>some (.none,iM (aA σ) .none σ')
def yR(Y:Pi)(C:Unit→aR)(σ:St)(f:Addr)(vs:List AV)(kw:List (Str×AV)):Option (AV×St) :=
 ob (Y.fn f) fun fi=>
 ob (iY fi.args fi.dflt vs kw) fun ls=>
 mR ((C ()).exs ⟨ls,fi.sc⟩ σ fi.body) fun r U σ'=>
 Na σ r σ'
def v5(Y:Pi)(C:Unit→aR)(σ:St)(f:Addr)(vs:List AV)(kw:List (Str×AV)):Option (AV×St) :=
 Option.rec (yR Y C σ f vs kw) (fun p=>Bool.rec (yR Y C σ f vs kw) (some p) (aF kw)) (Y.spec σ f vs)
def yi(Y:Pi)(R:aR):ac→St→List Stmt→Option (Fl×ac×St):=fun ls σ ss=>match ss with
 |[]=>some (.next,ls,σ)
 |s::r=>
  mR (R.ex ls σ s) fun f ls σ=>
  match f with
  |.next=>R.exs ls σ r
  |f=>some (f,ls,σ)
def EK(ls:ac)(σ:St)(v:AV)(x:Str):Option (ac×St) :=
 ob (Au ls x v) fun ls=>
 some ((ls,σ))
def El(Y:Pi)(R:aR)(ls:ac)(σ:St)(v:AV)(o:Expr)(x:Str):Option (ac×St) :=
 obp (R.ev ls σ o) fun ov σ=>
 ob (ib ov) fun k=>
 ob (AU Y σ k x v) fun σ=>
 some ((ls,σ))
def HG(R:aR)(ls:ac)(σ:St)(v:AV)(ts:List Expr):Option (ac×St):=match v with
 |.tup vs=>R.asgs ls σ vs ts
 |.cell k=>ob (eq σ k) fun vs=>R.asgs ls σ vs ts
 |_=>none
def EU(R:aR)(ls:ac)(σ:St)(v:AV)(o i:Expr):Option (ac×St) :=
 gd (Mq i) <|
 obp (R.ev ls σ o) fun ov σ=>
 obp (R.ev ls σ i) fun iv σ=>
 ob (ib ov) fun k=>
 ob (eq σ k) fun xs=>
 ob (iW iv) fun j=>
 ob (ji (aA xs) j) fun p=>
 some ((ls,dS σ k (.list (dS xs p v))))
def yd(Y:Pi)(R:aR)(ls:ac)(σ:St)(v:AV)(t:Expr):Option (ac×St):=match vE t with
 |.name x _=>EK ls σ v x
 |.attr o x _=>El Y R ls σ v o x
 |.tup ts=>HG R ls σ v ts
 |.sub o i=>EU R ls σ v o i
 |_=>none
def CD(Y:Pi)(R:aR):ac→St→List AV→List Expr→Option (ac×St):=fun ls σ vs ts=>match vs,ts with
 |[],[]=>some (ls,σ)
 |v::vs,t::ts=>
  gd (hK t) <|
  obp (R.asg ls σ v t) fun ls σ=>
  R.asgs ls σ vs ts
 |_,_=>none
def Gq(Y:Pi)(R:aR):ac→St→AV→List Expr→Option (ac×St):=fun ls σ v ts=>match ts with
 |[]=>none
 |t::ts=>
  gd (hK t) <|
  match ts with
  |[]=>R.asg ls σ v t
  |ts=>
   obp (R.asg ls σ v t) fun ls σ=>
   R.asgm ls σ v ts
def yP(R:aR)(ls:ac)(σ:St)(e:Expr):Option (Fl×ac×St) :=
 gd (tD e) <|
 obp (R.ev ls σ e) fun U σ=>
 some ((.next,ls,σ))
def FX(R:aR)(ls:ac)(σ:St)(e:Option Expr):Option (Fl×ac×St):=match e with
 |none=>some (.ret .none,ls,σ)
 |some e=>
  obp (R.ev ls σ e) fun v σ=>
  some ((.ret v,ls,σ))
def zn(R:aR)(ls:ac)(σ:St)(ts:List Expr)(e:Expr):Option (Fl×ac×St) :=
 gd (xO ts e) <|
 obp (R.ev ls σ e) fun v σ=>
 obp (R.asgm ls σ v ts) fun ls σ=>
 some ((.next,ls,σ))
def CU(Y:Pi)(R:aR)(ls:ac)(σ:St)(x:Str)(op:Operator)(e:Expr):Option (Fl×ac×St) :=
 gd (qE x ls.sc&&yG op) <|
 ob (lk x ls.v) fun a=>
 obp (R.ev ls σ e) fun b σ=>
 ob (sY Y.β op a b) fun r=>
 ob (Au ls x r) fun ls=>
 some ((.next,ls,σ))
def Jp(Y:Pi)(R:aR)(ls:ac)(σ:St)(o:Expr)(x:Str)(op:Operator)(e:Expr):Option (Fl×ac×St) :=
 gd (yG op) <|
 obp (R.ev ls σ o) fun ov σ=>
 ob (ib ov) fun k=>
 ob (mn Y σ ov x) fun a=>
 obp (R.ev ls σ e) fun b σ=>
 ob (sY Y.β op a b) fun r=>
 ob (AU Y σ k x r) fun σ=>
 some ((.next,ls,σ))
def Bx(Y:Pi)(R:aR)(ls:ac)(σ:St)(t:Expr)(op:Operator)(e:Expr):Option (Fl×ac×St):=match vE t with
 |.name x _=>CU Y R ls σ x op e
 |.attr o x _=>Jp Y R ls σ o x op e
 |_=>none
def Ib(R:aR)(ls:ac)(σ:St)(t:Expr)(b o:List Stmt):Option (Fl×ac×St) :=
 obp (R.tst ls σ t) fun c σ=>
 match c with
 |true=>R.exs ls σ b
 |false=>R.exs ls σ o
def Ge(R:aR)(ls:ac)(σ:St)(t:Expr)(b o:List Stmt):Option (Fl×ac×St) :=
 gd (o.isEmpty) <|
 R.wh ls σ t b
def C6(R:aR)(ls:ac)(σ:St)(t it:Expr)(b o:List Stmt):Option (Fl×ac×St) :=
 gd (o.isEmpty&&mc it&&ie t) <|
 obp (R.ev ls σ it) fun v σ=>
 ob (sP σ v) fun i=>
 R.fo ls σ t i b
def AD(Y:Pi)(R:aR)(ls:ac)(σ:St)(s:Stmt):Option (Fl×ac×St):=match vS s with
 |.exp e=>yP R ls σ e
 |.pass=>some (.next,ls,σ)
 |.ret e=>FX R ls σ e
 |.asg ts e=>zn R ls σ ts e
 |.aug t op e=>Bx Y R ls σ t op e
 |.ife t b o=>Ib R ls σ t b o
 |.wh t b o=>Ge R ls σ t b o
 |.fo t it b o=>C6 R ls σ t it b o
 |.other=>none
def IO(Y:Pi)(R:aR):ac→St→Expr→List Stmt→Option (Fl×ac×St):=fun ls σ t b=>
 obp (R.tst ls σ t) fun c σ=>
 match c with
 |false=>some (.next,ls,σ)
 |true=>
  mR (R.exs ls σ b) fun f ls σ=>
  match f with
  |.ret v=>some (.ret v,ls,σ)
  |_=>R.wh ls σ t b
def DD(Y:Pi)(R:aR):ac→St→Expr→It→List Stmt→Option (Fl×ac×St):=fun ls σ t i b=>
 ob (kJ σ i) fun x=>
 match x with
 |none=>some (.next,ls,σ)
 |some (v,i)=>
  obp (R.asg ls σ v t) fun ls σ=>
  mR (R.exs ls σ b) fun f ls σ=>
  match f with
  |.ret v=>some (.ret v,ls,σ)
  |_=>R.fo ls σ t i b
def aR.step(Y:Pi)(R:aR)(C:Unit→aR):aR where
 ev:=ye Y R
 evo:=yU Y R
 evs:=A8 Y R
 evk:=zz Y R
 bl:=AO Y R
 cc:=Ae Y R
 tst:=yk Y R
 tb:=yL Y R
 cl:=nC Y R
 cf:=v5 Y C
 exs:=yi Y R
 asg:=yd Y R
 asgs:=CD Y R
 asgm:=Gq Y R
 ex:=AD Y R
 wh:=IO Y R
 fo:=DD Y R
def mk(Y:Pi)(n:Nat):Nat→aR:=Nat.rec (fun U=>.bot) (fun U ih d=>.step Y (ih d) (fun U=>Nat.rec .bot (fun d' U=>ih d') d)) n
end
end
section
section
noncomputable def wk:List Stmt→Nat→Stmt
 |[],_=>.Pass default
 |a::_,0=>a
 |_::r,n+1=>wk r n
noncomputable def cB:Stmt→List Stmt
 |.ClassDef _ _ _ b _ _ _ _ _ _ _=>b
 |_=>[]
noncomputable def fA:Stmt→Arguments
 |.FunctionDef _ a _ _ _ _ _ _ _ _=>a
 |_=>default
noncomputable def fB:Stmt→List Stmt
 |.FunctionDef _ _ b _ _ _ _ _ _ _=>b
 |_=>[]
noncomputable def fS:Stmt→Scope
 |.FunctionDef _ _ _ _ _ _ s _ _ _=>s
 |_=>default
def tS(i:Nat):Stmt:=wk iK.main.body i
def mS(i j:Nat):Stmt:=wk (cB (wk iK.main.body i)) j
namespace Z
noncomputable def q(a b:Str):Str:=⟨⟨a.cps.toList++46::b.cps.toList⟩⟩
noncomputable def k(P:Params)(x:Str)(t:Tok)(v:Value):DictEntry:=⟨PyData.keyHash P x,.str x t,v⟩
noncomputable def c(a:Addr)(n:Str)(t:Tok)(q:Str)(l r x:Nat):Addr×Obj:=(a,⟨.type "code",none,.fields #[.str n t,.str q (t+1),.str lr (t+2),.int l 0,.int r 0,.int 0 0,.int 0 0,.int 3 0,.ref (a-5),.bool true,.int 181 0,.ref (a-4),.none,.ref (a-3),.ref (a-2),.ref (a-1),.int x 0,.int l 0,.str lr (x+1)],#[]⟩)
noncomputable def f(a:Addr)(n q:Str)(s:Stmt)(d:Value)(m:Str)(t:Tok):Addr×Obj:=(a,⟨.type "function",none,.func (fnOf n q (fA s) (fB s) (fS s) d .none .none (.str m t) none (.ref (a-1)) .none),#[]⟩)
noncomputable def y(a:Addr)(n:Str)(b r s:List Value)(i:Value)(t u:Tok):Addr×Obj:=(a,⟨.type "type",none,.cls ⟨n,b,r,a-1,n,true,[],s,false,none,false⟩,#[some i,none,some (.str n t),some (.str n u),some (.builtin "object.__new__"),some (.bool true)]⟩)
noncomputable def d(a:Addr)(e:Array DictEntry)(n:Nat):Addr×Obj:=(a,⟨.type "dict",none,.dict e n,#[]⟩)
noncomputable def u(a:Addr)(e:Array Value):Addr×Obj:=(a,⟨.type "tuple",none,.seq e 0,#[]⟩)
noncomputable def s0:Str:=⟨#[95,95,115,116,97,116,105,99,95,97,116,116,114,105,98,117,116,101,115,95,95]⟩
noncomputable def s1:Str:=⟨#[95,95,102,105,114,115,116,108,105,110,101,110,111,95,95]⟩
noncomputable def s2:Str:=⟨#[95,95,109,111,100,117,108,101,95,95]⟩
noncomputable def s3:Str:=⟨#[95,95,100,111,99,95,95]⟩
noncomputable def s4:Str:=⟨#[95,95,119,101,97,107,114,101,102,95,95]⟩
noncomputable def s5:Str:=⟨#[95,95,100,105,99,116,95,95]⟩
end Z
open Z in
def BN(P:Params):List DictEntry:=[k P Dc 633 (.str Dc 634),k P Qd 635 (.str O6 636)]
open Z in
def yV(P:Params):List DictEntry:=[k P OI 1120 (.str J7 1121),k P RS 1122 (.str OH 1123),k P TK 1124 (.str KK 1125),k P Nk 1126 (.str Mi 1127),k P Nd 1128 (.str JG 1129),k P Pt 1130 (.str UH 1131),k P QT 1132 (.str LB 1133),k P TR 1134 (.str Uc 1135),k P JY 1136 (.str QO 1137),k P Iz 1138 (.str Iz 1139),k P Jn 1140 (.str Jn 1141),k P OC 1142 (.str Qg 1143),k P RF 1144 (.str R6 1145),k P Nf 1146 (.str K9 1147),k P PB 1148 (.str LX 1149)]
open Z in
def cE(P:Params):Frag :=
 [d 3 #[k P n2 165 (.str jz 1315),k P s3 166 .none,k P ⟨#[95,95,112,97,99,107,97,103,101,95,95]⟩ 167 .none,k P ⟨#[95,95,108,111,97,100,101,114,95,95]⟩ 168 (.builtin "__main__.__loader__#opaque"),k P ⟨#[95,95,115,112,101,99,95,95]⟩ 169 .none,k P ⟨#[95,95,97,110,110,111,116,97,116,105,111,110,115,95,95]⟩ 170 (.ref 6),k P ⟨#[95,95,98,117,105,108,116,105,110,115,95,95]⟩ 171 (.ref 4),k P ⟨#[95,95,102,105,108,101,95,95]⟩ 173 (.str lr 172),k P ⟨#[95,95,99,97,99,104,101,100,95,95]⟩ 174 .none,k P n0 193 (.ref 21),k P n4 215 (.ref 31),k P n7 255 (.ref 59),k P rF 284 (.ref 81),k P pZ 319 (.ref 101),k P u9 335 (.ref 113),k P pK 364 (.ref 133),k P xi 380 (.ref 145),k P qN 413 (.ref 165),k P re 442 (.ref 185),k P vI 458 (.ref 197),k P p7 495 (.ref 217),k P wQ 511 (.ref 229),k P vj 527 (.ref 241),k P wX 543 (.ref 253),k P wj 559 (.ref 265),k P GT 577 (.ref 277),k P lQ 620 (.ref 296),k P az 1271 (.ref 736),k P iN 1314 (.ref 771),k P nY 1322 (.ref 782),k P nQ 1328 (.ref 789),k P oy 1334 (.ref 796),k P oa 1340 (.ref 803),k P oH 1350 (.ref 810),k P oq 1360 (.ref 817),k P oK 1369 (.ref 824),k P nN 1375 (.ref 829),k P oV 1381 (.ref 834),k P qQ 1387 (.ref 839)] 39,
c 20 n0 187 n0 1 1 191,
f 21 n0 n0 (tS 0) .none ⟨#[95,95,109,97,105,110,95,95]⟩ 164,
u 42 #[.none,.none],
c 48 n9 230 (q n7 n9) 10 3 236,
f 49 n9 (q n7 n9) (mS 4 0) (.ref 42) n6 216,
c 55 fL 239 (q n7 fL) 14 1 243,
f 56 fL (q n7 fL) (mS 4 1) .none n6 216,
d 58 #[k P s2 225 (.str n6 216),k P s1 229 (.int 8 228),k P n9 238 (.ref 49),k P fL 245 (.ref 56),k P s0 248 (.ref 57),k P s5 250 (.ref 60),k P s4 252 (.ref 61),k P s3 253 .none] 4,
y 59 n7 [(.type "object")] [(.ref 59),(.type "object")] [(.ref 81),(.ref 113),(.ref 133),(.ref 145),(.ref 165),(.ref 185)] (.ref 35) 218 226,
u 71 #[.none,.none],
c 77 n9 268 (q rF n9) 18 4 275,
f 78 n9 (q rF n9) (mS 5 0) (.ref 71) n6 216,
d 80 #[k P s2 263 (.str n6 216),k P s1 267 (.int 16 266),k P n9 277 (.ref 78),k P s0 281 (.ref 79),k P s3 282 .none] 2,
y 81 rF [(.ref 59)] [(.ref 81),(.ref 59),(.type "object")] [(.ref 101),(.ref 197),(.ref 217)] (.ref 64) 256 264,
u 91 #[.none,.none,.none],
c 97 n9 297 (q pZ n9) 24 7 307,
f 98 n9 (q pZ n9) (mS 6 0) (.ref 91) n6 216,
d 100 #[k P s2 292 (.str n6 216),k P s1 296 (.int 22 295),k P n9 309 (.ref 98),k P s0 316 (.ref 99),k P s3 317 .none] 2,
y 101 pZ [(.ref 81)] [(.ref 101),(.ref 81),(.ref 59),(.type "object")] [(.ref 229),(.ref 253)] (.ref 84) 285 293,
d 112 #[k P s2 327 (.str n6 216),k P s1 331 (.int 31 330),k P s0 332 (.ref 111),k P s3 333 .none] 2,
y 113 u9 [(.ref 59)] [(.ref 113),(.ref 59),(.type "object")] [(.ref 241),(.ref 265)] (.ref 104) 320 328,
u 123 #[.none,.none,.none],
c 129 n9 348 (q pK n9) 35 4 355,
f 130 n9 (q pK n9) (mS 8 0) (.ref 123) n6 216,
d 132 #[k P s2 343 (.str n6 216),k P s1 347 (.int 33 346),k P n9 357 (.ref 130),k P s0 361 (.ref 131),k P s3 362 .none] 2,
y 133 pK [(.ref 59)] [(.ref 133),(.ref 59),(.type "object")] [] (.ref 116) 336 344,
d 144 #[k P s2 372 (.str n6 216),k P s1 376 (.int 39 375),k P s0 377 (.ref 143),k P s3 378 .none] 2,
y 145 xi [(.ref 59)] [(.ref 145),(.ref 59),(.type "object")] [] (.ref 136) 365 373,
u 155 #[.none,.none,.none,.none,.none],
c 161 n9 393 (q qN n9) 43 6 402,
f 162 n9 (q qN n9) (mS 10 0) (.ref 155) n6 216,
d 164 #[k P s2 388 (.str n6 216),k P s1 392 (.int 41 391),k P n9 404 (.ref 162),k P s0 410 (.ref 163),k P s3 411 .none] 2,
y 165 qN [(.ref 59)] [(.ref 165),(.ref 59),(.type "object")] [] (.ref 148) 381 389,
u 175 #[.none,.none,.none],
c 181 n9 426 (q re n9) 51 4 433,
f 182 n9 (q re n9) (mS 11 0) (.ref 175) n6 216,
d 184 #[k P s2 421 (.str n6 216),k P s1 425 (.int 49 424),k P n9 435 (.ref 182),k P s0 439 (.ref 183),k P s3 440 .none] 2,
y 185 re [(.ref 59)] [(.ref 185),(.ref 59),(.type "object")] [] (.ref 168) 414 422,
d 196 #[k P s2 450 (.str n6 216),k P s1 454 (.int 55 453),k P s0 455 (.ref 195),k P s3 456 .none] 2,
y 197 vI [(.ref 81)] [(.ref 197),(.ref 81),(.ref 59),(.type "object")] [] (.ref 188) 443 451,
u 207 #[.none,.none,.none],
c 213 n9 471 (q p7 n9) 59 8 482,
f 214 n9 (q p7 n9) (mS 13 0) (.ref 207) n6 216,
d 216 #[k P s2 466 (.str n6 216),k P s1 470 (.int 57 469),k P n9 484 (.ref 214),k P s0 492 (.ref 215),k P s3 493 .none] 2,
y 217 p7 [(.ref 81)] [(.ref 217),(.ref 81),(.ref 59),(.type "object")] [] (.ref 200) 459 467,
d 228 #[k P s2 503 (.str n6 216),k P s1 507 (.int 67 506),k P s0 508 (.ref 227),k P s3 509 .none] 2,
y 229 wQ [(.ref 101)] [(.ref 229),(.ref 101),(.ref 81),(.ref 59),(.type "object")] [] (.ref 220) 496 504,
d 240 #[k P s2 519 (.str n6 216),k P s1 523 (.int 69 522),k P s0 524 (.ref 239),k P s3 525 .none] 2,
y 241 vj [(.ref 113)] [(.ref 241),(.ref 113),(.ref 59),(.type "object")] [] (.ref 232) 512 520,
d 252 #[k P s2 535 (.str n6 216),k P s1 539 (.int 71 538),k P s0 540 (.ref 251),k P s3 541 .none] 2,
y 253 wX [(.ref 101)] [(.ref 253),(.ref 101),(.ref 81),(.ref 59),(.type "object")] [] (.ref 244) 528 536,
d 264 #[k P s2 551 (.str n6 216),k P s1 555 (.int 73 554),k P s0 556 (.ref 263),k P s3 557 .none] 2,
y 265 wj [(.ref 113)] [(.ref 265),(.ref 113),(.ref 59),(.type "object")] [] (.ref 256) 544 552,
c 292 n9 590 (q lQ n9) 80 9 602,
f 293 n9 (q lQ n9) (mS 20 0) .none bn 560,
d 295 #[k P s2 585 (.str bn 560),k P s1 589 (.int 78 588),k P n9 604 (.ref 293),k P s0 613 (.ref 294),k P s5 615 (.ref 297),k P s4 617 (.ref 298),k P s3 618 .none] 4,
(296,⟨(.type "type"),none,.cls ⟨lQ,[(.type "object")],[(.ref 296),(.type "object")],295,lQ,true,[],[],false,none,false⟩,#[none,none,(some (.str lQ 578)),(some (.str lQ 586)),(some (.builtin "object.__new__")),(some (.bool true))]⟩),
(308,⟨(.type "dict"),none,.dict (BN P).toArray 2,#[]⟩),
u 309 #[.none,.none,.none,.none,.none],
c 315 n9 640 (q az n9) 92 7 650,
f 316 n9 (q az n9) (mS 21 1) (.ref 309) bn 560,
c 322 qW 653 (q az qW) 128 1 657,
f 323 qW (q az qW) (mS 21 2) .none bn 560,
c 329 pP 660 (q az pP) 131 2 665,
f 330 pP (q az pP) (mS 21 3) .none bn 560,
c 336 qr 668 (q az qr) 138 1 673,
f 337 qr (q az qr) (mS 21 4) .none bn 560,
c 343 ry 676 (q az ry) 151 2 683,
f 344 ry (q az ry) (mS 21 5) .none bn 560,
u 345 #[(.bool false),(.bool false)],
c 351 rz 686 (q az rz) 164 3 692,
f 352 rz (q az rz) (mS 21 6) (.ref 345) bn 560,
c 358 qH 695 (q az qH) 174 1 699,
f 359 qH (q az qH) (mS 21 7) .none bn 560,
c 365 qS 702 (q az qS) 181 1 706,
f 366 qS (q az qS) (mS 21 8) .none bn 560,
c 372 pi 709 (q az pi) 184 1 713,
f 373 pi (q az pi) (mS 21 9) .none bn 560,
u 374 #[(.bool false)],
c 380 qX 716 (q az qX) 187 2 728,
f 381 qX (q az qX) (mS 21 10) (.ref 374) bn 560,
c 387 pY 731 (q az pY) 220 1 735,
f 388 pY (q az pY) (mS 21 11) .none bn 560,
c 394 qg 738 (q az qg) 231 1 742,
f 395 qg (q az qg) (mS 21 12) .none bn 560,
u 396 #[(.bool false),(.bool false),(.bool false),(.bool false)],
c 402 qc 745 (q az qc) 235 5 753,
f 403 qc (q az qc) (mS 21 13) (.ref 396) bn 560,
c 409 rO 756 (q az rO) 260 1 760,
f 410 rO (q az rO) (mS 21 14) .none bn 560,
c 416 rf 763 (q az rf) 266 1 767,
f 417 rf (q az rf) (mS 21 15) .none bn 560,
c 423 pX 770 (q az pX) 272 1 774,
f 424 pX (q az pX) (mS 21 16) .none bn 560,
c 430 pA 777 (q az pA) 278 1 781,
f 431 pA (q az pA) (mS 21 17) .none bn 560,
c 437 qi 784 (q az qi) 290 1 788,
f 438 qi (q az qi) (mS 21 18) .none bn 560,
c 444 qq 791 (q az qq) 306 1 795,
f 445 qq (q az qq) (mS 21 19) .none bn 560,
c 451 p9 798 (q az p9) 312 1 802,
f 452 p9 (q az p9) (mS 21 20) .none bn 560,
c 458 qo 805 (q az qo) 329 1 809,
f 459 qo (q az qo) (mS 21 21) .none bn 560,
c 465 pS 812 (q az pS) 350 1 816,
f 466 pS (q az pS) (mS 21 22) .none bn 560,
c 472 q8 819 (q az q8) 355 1 823,
f 473 q8 (q az q8) (mS 21 23) .none bn 560,
c 479 pV 826 (q az pV) 362 1 831,
f 480 pV (q az pV) (mS 21 24) .none bn 560,
c 486 pF 834 (q az pF) 367 1 838,
f 487 pF (q az pF) (mS 21 25) .none bn 560,
u 488 #[(.bool false)],
c 494 rV 841 (q az rV) 370 2 846,
f 495 rV (q az rV) (mS 21 26) (.ref 488) bn 560,
c 501 qO 849 (q az qO) 380 1 853,
f 502 qO (q az qO) (mS 21 27) .none bn 560,
c 508 qT 856 (q az qT) 384 1 860,
f 509 qT (q az qT) (mS 21 28) .none bn 560,
u 510 #[(.bool false)],
c 516 rg 863 (q az rg) 387 2 868,
f 517 rg (q az rg) (mS 21 29) (.ref 510) bn 560,
c 523 pv 871 (q az pv) 401 1 875,
f 524 pv (q az pv) (mS 21 30) .none bn 560,
c 530 rq 878 (q az rq) 406 1 882,
f 531 rq (q az rq) (mS 21 31) .none bn 560,
c 537 rm 885 (q az rm) 412 1 889,
f 538 rm (q az rm) (mS 21 32) .none bn 560,
c 544 rR 892 (q az rR) 415 1 896,
f 545 rR (q az rR) (mS 21 33) .none bn 560,
c 551 q7 899 (q az q7) 418 1 904,
f 552 q7 (q az q7) (mS 21 34) .none bn 560,
c 558 qd 907 (q az qd) 424 1 912,
f 559 qd (q az qd) (mS 21 35) .none bn 560,
c 565 rJ 915 (q az rJ) 440 2 920,
f 566 rJ (q az rJ) (mS 21 36) .none bn 560,
c 572 rS 923 (q az rS) 450 1 928,
f 573 rS (q az rS) (mS 21 37) .none bn 560,
c 579 rE 931 (q az rE) 472 1 935,
f 580 rE (q az rE) (mS 21 38) .none bn 560,
c 586 rp 938 (q az rp) 488 1 943,
f 587 rp (q az rp) (mS 21 39) .none bn 560,
c 593 pp 946 (q az pp) 507 2 953,
f 594 pp (q az pp) (mS 21 40) .none bn 560,
c 600 qs 956 (q az qs) 513 2 962,
f 601 qs (q az qs) (mS 21 41) .none bn 560,
c 607 qZ 965 (q az qZ) 523 2 975,
f 608 qZ (q az qZ) (mS 21 42) .none bn 560,
c 614 pz 978 (q az pz) 545 2 993,
f 615 pz (q az pz) (mS 21 43) .none bn 560,
c 621 qG 996 (q az qG) 578 2 1002,
f 622 qG (q az qG) (mS 21 44) .none bn 560,
c 628 rX 1005 (q az rX) 586 2 1032,
f 629 rX (q az rX) (mS 21 45) .none bn 560,
c 635 pH 1035 (q az pH) 684 1 1039,
f 636 pH (q az pH) (mS 21 46) .none bn 560,
c 642 pu 1042 (q az pu) 687 1 1046,
f 643 pu (q az pu) (mS 21 47) .none bn 560,
c 649 qw 1049 (q az qw) 690 1 1053,
f 650 qw (q az qw) (mS 21 48) .none bn 560,
u 651 #[(.bool false),(.bool false)],
c 657 rn 1056 (q az rn) 693 5 1065,
f 658 rn (q az rn) (mS 21 49) (.ref 651) bn 560,
c 664 rl 1068 (q az rl) 704 1 1074,
f 665 rl (q az rl) (mS 21 50) .none bn 560,
u 666 #[.none],
c 672 r7 1077 (q az r7) 714 2 1082,
f 673 r7 (q az r7) (mS 21 51) (.ref 666) bn 560,
c 679 pB 1085 (q az pB) 723 2 1091,
f 680 pB (q az pB) (mS 21 52) .none bn 560,
c 686 pM 1094 (q az pM) 728 3 1101,
f 687 pM (q az pM) (mS 21 53) .none bn 560,
u 688 #[(.bool true)],
c 694 pI 1104 (q az pI) 733 3 1117,
f 695 pI (q az pI) (mS 21 54) (.ref 688) bn 560,
(696,⟨(.type "dict"),none,.dict (yV P).toArray 15,#[]⟩),
u 697 #[(.bool true)],
c 703 rd 1166 (q az rd) 780 3 1176,
f 704 rd (q az rd) (mS 21 56) (.ref 697) bn 560,
c 710 ro 1179 (q az ro) 821 2 1185,
f 711 ro (q az ro) (mS 21 57) .none bn 560,
c 717 qJ 1188 (q az qJ) 832 2 1202,
f 718 qJ (q az qJ) (mS 21 58) .none bn 560,
c 724 pt 1205 (q az pt) 880 2 1217,
f 725 pt (q az pt) (mS 21 59) .none bn 560,
u 726 #[(.bool true)],
c 732 pq 1220 (q az pq) 912 3 1233,
f 733 pq (q az pq) (mS 21 60) (.ref 726) bn 560,
d 735 #[k P s2 628 (.str bn 560),k P s1 632 (.int 89 631),k P tP 639 (.ref 308),k P n9 652 (.ref 316),k P qW 659 (.ref 323),k P pP 667 (.ref 330),k P qr 675 (.ref 337),k P ry 685 (.ref 344),k P rz 694 (.ref 352),k P qH 701 (.ref 359),k P qS 708 (.ref 366),k P pi 715 (.ref 373),k P qX 730 (.ref 381),k P pY 737 (.ref 388),k P qg 744 (.ref 395),k P qc 755 (.ref 403),k P rO 762 (.ref 410),k P rf 769 (.ref 417),k P pX 776 (.ref 424),k P pA 783 (.ref 431),k P qi 790 (.ref 438),k P qq 797 (.ref 445),k P p9 804 (.ref 452),k P qo 811 (.ref 459),k P pS 818 (.ref 466),k P q8 825 (.ref 473),k P pV 833 (.ref 480),k P pF 840 (.ref 487),k P rV 848 (.ref 495),k P qO 855 (.ref 502),k P qT 862 (.ref 509),k P rg 870 (.ref 517),k P pv 877 (.ref 524),k P rq 884 (.ref 531),k P rm 891 (.ref 538),k P rR 898 (.ref 545),k P q7 906 (.ref 552),k P qd 914 (.ref 559),k P rJ 922 (.ref 566),k P rS 930 (.ref 573),k P rE 937 (.ref 580),k P rp 945 (.ref 587),k P pp 955 (.ref 594),k P qs 964 (.ref 601),k P qZ 977 (.ref 608),k P pz 995 (.ref 615),k P qG 1004 (.ref 622),k P rX 1034 (.ref 629),k P pH 1041 (.ref 636),k P pu 1048 (.ref 643),k P qw 1055 (.ref 650),k P rn 1067 (.ref 658),k P rl 1076 (.ref 665),k P r7 1084 (.ref 673),k P pB 1093 (.ref 680),k P pM 1103 (.ref 687),k P pI 1119 (.ref 695),k P tB 1165 (.ref 696),k P rd 1178 (.ref 704),k P ro 1187 (.ref 711),k P qJ 1204 (.ref 718),k P pt 1219 (.ref 725),k P pq 1235 (.ref 733),k P s0 1264 (.ref 734),k P s5 1266 (.ref 737),k P s4 1268 (.ref 738),k P s3 1269 .none] 4,
(736,⟨(.type "type"),none,.cls ⟨az,[(.type "object")],[(.ref 736),(.type "object")],735,az,true,[],[],false,none,false⟩,#[none,none,(some (.str az 621)),(some (.str az 629)),(some (.builtin "object.__new__")),(some (.bool true))]⟩),
c 753 n9 1284 (q iN n9) 965 1 1288,
f 754 n9 (q iN n9) (mS 22 0) .none bn 560,
c 760 rr 1291 (q iN rr) 968 2 1296,
f 761 rr (q iN rr) (mS 22 1) .none bn 560,
c 767 dg 1299 (q iN dg) 971 1 1303,
f 768 dg (q iN dg) (mS 22 2) .none bn 560,
d 770 #[k P s2 1279 (.str bn 560),k P s1 1283 (.int 963 1282),k P n9 1290 (.ref 754),k P rr 1298 (.ref 761),k P dg 1305 (.ref 768),k P s0 1307 (.ref 769),k P s5 1309 (.ref 772),k P s4 1311 (.ref 773),k P s3 1312 .none] 4,
(771,⟨(.type "type"),none,.cls ⟨iN,[(.type "object")],[(.ref 771),(.type "object")],770,iN,true,[],[],false,none,false⟩,#[none,none,(some (.str iN 1272)),(some (.str iN 1280)),(some (.builtin "object.__new__")),(some (.bool true))]⟩),
c 781 nY 1317 nY 974 0 1320,
f 782 nY nY (tS 24) .none jz 1315,
c 788 nQ 1323 nQ 976 0 1326,
f 789 nQ nQ (tS 25) .none jz 1315,
c 795 oy 1329 oy 978 0 1332,
f 796 oy oy (tS 26) .none jz 1315,
c 802 oa 1335 oa 980 0 1338,
f 803 oa oa (tS 27) .none jz 1315,
c 809 oH 1341 oH 982 2 1348,
f 810 oH oH (tS 28) .none jz 1315,
c 816 oq 1351 oq 991 2 1358,
f 817 oq oq (tS 29) .none jz 1315,
c 823 oK 1361 oK 1001 2 1367,
f 824 oK oK (tS 30) .none jz 1315,
(828,⟨(.type "code"),none,.fields #[(.str nN 1370),(.str nN 1371),(.str lr 1372),(.int 1008 0),(.int 5 0),(.int 0 0),(.int 0 0),(.int 3 0),(.ref 825),(.bool true),(.int 181 0),(.ref 826),.none,.none,.none,(.ref 827),(.int 1373 0),(.int 1008 0),(.str lr 1374)],#[]⟩),
f 829 nN nN (tS 31) .none jz 1315,
(833,⟨(.type "code"),none,.fields #[(.str oV 1376),(.str oV 1377),(.str lr 1378),(.int 1021 0),(.int 2 0),(.int 0 0),(.int 0 0),(.int 3 0),(.ref 830),(.bool true),(.int 181 0),(.ref 831),.none,.none,.none,(.ref 832),(.int 1379 0),(.int 1021 0),(.str lr 1380)],#[]⟩),
f 834 oV oV (tS 32) .none jz 1315,
(838,⟨(.type "code"),none,.fields #[(.str qQ 1382),(.str qQ 1383),(.str lr 1384),(.int 1028 0),(.int 1 0),(.int 0 0),(.int 0 0),(.int 3 0),(.ref 835),(.bool true),(.int 181 0),(.ref 836),.none,.none,.none,(.ref 837),(.int 1385 0),(.int 1028 0),(.str lr 1386)],#[]⟩),
f 839 qQ qQ (tS 33) .none jz 1315]
noncomputable def xR:List Addr:=[3,20,21,42,48,49,55,56,58,59,71,77,78,80,81,91,97,98,100,101,112,113,123,129,130,132,133,144,145,155,161,162,164,165,175,181,182,184,185,196,197,207,213,214,216,217,228,229,240,241,252,253,264,265,292,293,295,296,308,309,315,316,322,323,329,330,336,337,343,344,345,351,352,358,359,365,366,372,373,374,380,381,387,388,394,395,396,402,403,409,410,416,417,423,424,430,431,437,438,444,445,451,452,458,459,465,466,472,473,479,480,486,487,488,494,495,501,502,508,509,510,516,517,523,524,530,531,537,538,544,545,551,552,558,559,565,566,572,573,579,580,586,587,593,594,600,601,607,608,614,615,621,622,628,629,635,636,642,643,649,650,651,657,658,664,665,666,672,673,679,680,686,687,688,694,695,696,697,703,704,710,711,717,718,724,725,726,732,733,735,736,753,754,760,761,767,768,770,771,781,782,788,789,795,796,802,803,809,810,816,817,823,824,828,829,833,834,838,839]
def gL:List (Addr×oo) :=
 [(21,⟨[n1],[],fB (tS 0),(fS (tS 0)).names⟩),
  (49,⟨[aJ,dM,dK],[.none,.none],fB (mS 4 0),(fS (mS 4 0)).names⟩),
  (56,⟨[aJ],[],fB (mS 4 1),(fS (mS 4 1)).names⟩),
  (78,⟨[aJ,i8,dM,dK],[.none,.none],fB (mS 5 0),(fS (mS 5 0)).names⟩),
  (98,⟨[aJ,i8,lL,nB,dM,dK,uv],[.none,.none,.none],fB (mS 6 0),(fS (mS 6 0)).names⟩),
  (130,⟨[aJ,dM,dK,qV],[.none,.none,.none],fB (mS 8 0),(fS (mS 8 0)).names⟩),
  (162,⟨[aJ,dM,dK,p0,vZ,BK],[.none,.none,.none,.none,.none],fB (mS 10 0),(fS (mS 10 0)).names⟩),
  (182,⟨[aJ,dM,dK,p0],[.none,.none,.none],fB (mS 11 0),(fS (mS 11 0)).names⟩),
  (214,⟨[aJ,i8,lL,nB,cT,dM,dK,pG],[.none,.none,.none],fB (mS 13 0),(fS (mS 13 0)).names⟩),
  (293,⟨[aJ,iw,zd,zV,u0,vQ,vX,xb,uK],[],fB (mS 20 0),(fS (mS 20 0)).names⟩),
  (316,⟨[aJ,wu,ve,sC,Og,w2,oR],[.none,.none,.none,.none,.none],fB (mS 21 1),(fS (mS 21 1)).names⟩),
  (323,⟨[aJ],[],fB (mS 21 2),(fS (mS 21 2)).names⟩),
  (330,⟨[aJ,iO],[],fB (mS 21 3),(fS (mS 21 3)).names⟩),
  (337,⟨[aJ],[],fB (mS 21 4),(fS (mS 21 4)).names⟩),
  (344,⟨[aJ,PY],[],fB (mS 21 5),(fS (mS 21 5)).names⟩),
  (352,⟨[aJ,RX,LY],[(.bool false),(.bool false)],fB (mS 21 6),(fS (mS 21 6)).names⟩),
  (359,⟨[aJ],[],fB (mS 21 7),(fS (mS 21 7)).names⟩),
  (366,⟨[aJ],[],fB (mS 21 8),(fS (mS 21 8)).names⟩),
  (373,⟨[aJ],[],fB (mS 21 9),(fS (mS 21 9)).names⟩),
  (381,⟨[aJ,zA],[(.bool false)],fB (mS 21 10),(fS (mS 21 10)).names⟩),
  (388,⟨[aJ],[],fB (mS 21 11),(fS (mS 21 11)).names⟩),
  (395,⟨[aJ],[],fB (mS 21 12),(fS (mS 21 12)).names⟩),
  (403,⟨[aJ,Py,Pg,Ks,KV],[(.bool false),(.bool false),(.bool false),(.bool false)],fB (mS 21 13),(fS (mS 21 13)).names⟩),
  (410,⟨[aJ],[],fB (mS 21 14),(fS (mS 21 14)).names⟩),
  (417,⟨[aJ],[],fB (mS 21 15),(fS (mS 21 15)).names⟩),
  (424,⟨[aJ],[],fB (mS 21 16),(fS (mS 21 16)).names⟩),
  (431,⟨[aJ],[],fB (mS 21 17),(fS (mS 21 17)).names⟩),
  (438,⟨[aJ],[],fB (mS 21 18),(fS (mS 21 18)).names⟩),
  (445,⟨[aJ],[],fB (mS 21 19),(fS (mS 21 19)).names⟩),
  (452,⟨[aJ],[],fB (mS 21 20),(fS (mS 21 20)).names⟩),
  (459,⟨[aJ],[],fB (mS 21 21),(fS (mS 21 21)).names⟩),
  (466,⟨[aJ],[],fB (mS 21 22),(fS (mS 21 22)).names⟩),
  (473,⟨[aJ],[],fB (mS 21 23),(fS (mS 21 23)).names⟩),
  (480,⟨[aJ],[],fB (mS 21 24),(fS (mS 21 24)).names⟩),
  (487,⟨[aJ],[],fB (mS 21 25),(fS (mS 21 25)).names⟩),
  (495,⟨[aJ,zA],[(.bool false)],fB (mS 21 26),(fS (mS 21 26)).names⟩),
  (502,⟨[aJ],[],fB (mS 21 27),(fS (mS 21 27)).names⟩),
  (509,⟨[aJ],[],fB (mS 21 28),(fS (mS 21 28)).names⟩),
  (517,⟨[aJ,zA],[(.bool false)],fB (mS 21 29),(fS (mS 21 29)).names⟩),
  (524,⟨[aJ],[],fB (mS 21 30),(fS (mS 21 30)).names⟩),
  (531,⟨[aJ],[],fB (mS 21 31),(fS (mS 21 31)).names⟩),
  (538,⟨[aJ],[],fB (mS 21 32),(fS (mS 21 32)).names⟩),
  (545,⟨[aJ],[],fB (mS 21 33),(fS (mS 21 33)).names⟩),
  (552,⟨[aJ],[],fB (mS 21 34),(fS (mS 21 34)).names⟩),
  (559,⟨[aJ],[],fB (mS 21 35),(fS (mS 21 35)).names⟩),
  (566,⟨[aJ,CK],[],fB (mS 21 36),(fS (mS 21 36)).names⟩),
  (573,⟨[aJ],[],fB (mS 21 37),(fS (mS 21 37)).names⟩),
  (580,⟨[aJ],[],fB (mS 21 38),(fS (mS 21 38)).names⟩),
  (587,⟨[aJ],[],fB (mS 21 39),(fS (mS 21 39)).names⟩),
  (594,⟨[aJ,vZ],[],fB (mS 21 40),(fS (mS 21 40)).names⟩),
  (601,⟨[aJ,Ul],[],fB (mS 21 41),(fS (mS 21 41)).names⟩),
  (608,⟨[aJ,TV],[],fB (mS 21 42),(fS (mS 21 42)).names⟩),
  (615,⟨[aJ,lL],[],fB (mS 21 43),(fS (mS 21 43)).names⟩),
  (622,⟨[aJ,i8],[],fB (mS 21 44),(fS (mS 21 44)).names⟩),
  (629,⟨[aJ,iw],[],fB (mS 21 45),(fS (mS 21 45)).names⟩),
  (636,⟨[aJ],[],fB (mS 21 46),(fS (mS 21 46)).names⟩),
  (643,⟨[aJ],[],fB (mS 21 47),(fS (mS 21 47)).names⟩),
  (650,⟨[aJ],[],fB (mS 21 48),(fS (mS 21 48)).names⟩),
  (658,⟨[aJ,CK,PA,v0,vf],[(.bool false),(.bool false)],fB (mS 21 49),(fS (mS 21 49)).names⟩),
  (665,⟨[aJ],[],fB (mS 21 50),(fS (mS 21 50)).names⟩),
  (673,⟨[aJ,GN],[.none],fB (mS 21 51),(fS (mS 21 51)).names⟩),
  (680,⟨[aJ,Pw],[],fB (mS 21 52),(fS (mS 21 52)).names⟩),
  (687,⟨[aJ,JR,Nx],[],fB (mS 21 53),(fS (mS 21 53)).names⟩),
  (695,⟨[aJ,dg,lC],[(.bool true)],fB (mS 21 54),(fS (mS 21 54)).names⟩),
  (704,⟨[aJ,dg,lC],[(.bool true)],fB (mS 21 56),(fS (mS 21 56)).names⟩),
  (711,⟨[aJ,dg],[],fB (mS 21 57),(fS (mS 21 57)).names⟩),
  (718,⟨[aJ,dg],[],fB (mS 21 58),(fS (mS 21 58)).names⟩),
  (725,⟨[aJ,dg],[],fB (mS 21 59),(fS (mS 21 59)).names⟩),
  (733,⟨[aJ,dg,lC],[(.bool true)],fB (mS 21 60),(fS (mS 21 60)).names⟩),
  (754,⟨[aJ],[],fB (mS 22 0),(fS (mS 22 0)).names⟩),
  (761,⟨[aJ,GN],[],fB (mS 22 1),(fS (mS 22 1)).names⟩),
  (768,⟨[aJ],[],fB (mS 22 2),(fS (mS 22 2)).names⟩),
  (782,⟨[],[],fB (tS 24),(fS (tS 24)).names⟩),
  (789,⟨[],[],fB (tS 25),(fS (tS 25)).names⟩),
  (796,⟨[],[],fB (tS 26),(fS (tS 26)).names⟩),
  (803,⟨[],[],fB (tS 27),(fS (tS 27)).names⟩),
  (810,⟨[cT,lg],[],fB (tS 28),(fS (tS 28)).names⟩),
  (817,⟨[cT,lg],[],fB (tS 29),(fS (tS 29)).names⟩),
  (824,⟨[cT,lT],[],fB (tS 30),(fS (tS 30)).names⟩),
  (829,⟨[fh,lT,sC,lg,oI],[],fB (tS 31),(fS (tS 31)).names⟩),
  (834,⟨[iG,fc],[],fB (tS 32),(fS (tS 32)).names⟩),
  (839,⟨[KP],[],fB (tS 33),(fS (tS 33)).names⟩)]
noncomputable def AW:List (List Nat×AV):=[([33],.str (.k [33])),([116,97,103,58,121,97,109,108,46,111,114,103,44,50,48,48,50,58],.str (.k [33,33]))]
noncomputable def BO:List (List Nat×AV):=[([0],.str (.k [48])),([7],.str (.k [97])),([8],.str (.k [98])),([9],.str (.k [116])),([10],.str (.k [110])),([11],.str (.k [118])),([12],.str (.k [102])),([13],.str (.k [114])),([27],.str (.k [101])),([34],.str (.k [34])),([92],.str (.k [92])),([133],.str (.k [78])),([160],.str (.k [95])),([8232],.str (.k [76])),([8233],.str (.k [80]))]
def nA:List (Addr×CI) :=
 [(59,⟨(some 49),true,[59],[(n9,49),(fL,56)],[],[dK,dM]⟩),
  (81,⟨(some 78),true,[81,59],[(n9,78),(fL,56)],[],[i8,dK,dM]⟩),
  (101,⟨(some 98),true,[101,81,59],[(n9,98),(fL,56)],[],[i8,dK,uv,nB,dM,lL]⟩),
  (113,⟨(some 49),true,[113,59],[(n9,49),(fL,56)],[],[dK,dM]⟩),
  (133,⟨(some 130),true,[133,59],[(n9,130),(fL,56)],[],[qV,dK,dM]⟩),
  (145,⟨(some 49),true,[145,59],[(n9,49),(fL,56)],[],[dK,dM]⟩),
  (165,⟨(some 162),true,[165,59],[(n9,162),(fL,56)],[],[dK,p0,dM,BK,vZ]⟩),
  (185,⟨(some 182),true,[185,59],[(n9,182),(fL,56)],[],[dK,p0,dM]⟩),
  (197,⟨(some 78),true,[197,81,59],[(n9,78),(fL,56)],[],[i8,dK,dM]⟩),
  (217,⟨(some 214),true,[217,81,59],[(n9,214),(fL,56)],[],[i8,dK,nB,dM,pG,lL,cT]⟩),
  (229,⟨(some 98),true,[229,101,81,59],[(n9,98),(fL,56)],[],[i8,dK,uv,nB,dM,lL]⟩),
  (241,⟨(some 49),true,[241,113,59],[(n9,49),(fL,56)],[],[dK,dM]⟩),
  (253,⟨(some 98),true,[253,101,81,59],[(n9,98),(fL,56)],[],[i8,dK,uv,nB,dM,lL]⟩),
  (265,⟨(some 49),true,[265,113,59],[(n9,49),(fL,56)],[],[dK,dM]⟩),
  (296,⟨(some 293),true,[296],[(n9,293)],[],[uK,vQ,xb,u0,vX,zd,zV,iw]⟩),
  (736,⟨(some 316),false,[736],[(n9,316),(qW,323),(pP,330),(qr,337),(ry,344),(rz,352),(qH,359),(qS,366),(pi,373),(qX,381),(pY,388),(qg,395),(qc,403),(rO,410),(rf,417),(pX,424),(pA,431),(qi,438),(qq,445),(p9,452),(qo,459),(pS,466),(q8,473),(pV,480),(pF,487),(rV,495),(qO,502),(qT,509),(rg,517),(pv,524),(rq,531),(rm,538),(rR,545),(q7,552),(qd,559),(rJ,566),(rS,573),(rE,580),(rp,587),(pp,594),(qs,601),(qZ,608),(pz,615),(qG,622),(rX,629),(pH,636),(pu,643),(qw,650),(rn,658),(rl,665),(r7,673),(pB,680),(pM,687),(pI,695),(rd,704),(ro,711),(qJ,718),(pt,725),(pq,733)],[(tP,.dict AW),(tB,.dict BO)],[w2,BG,zb,An,yq,ve,Bn,qV,iO,xd,yH,sC,vf,yz,yK,BB,yC,yy,A3,zT,AZ,y8,zW,BH,wu,pG,A4,v0]⟩),
  (771,⟨(some 754),false,[771],[(n9,754),(rr,761),(dg,768)],[],[fc]⟩)]
def GM:List (Str×AV) :=
 [(n7,.cls 59),
  (rF,.cls 81),
  (pZ,.cls 101),
  (u9,.cls 113),
  (pK,.cls 133),
  (xi,.cls 145),
  (qN,.cls 165),
  (re,.cls 185),
  (vI,.cls 197),
  (p7,.cls 217),
  (wQ,.cls 229),
  (vj,.cls 241),
  (wX,.cls 253),
  (wj,.cls 265),
  (lQ,.cls 296),
  (az,.cls 736),
  (iN,.cls 771),
  (n0,.fn 21),
  (nY,.fn 782),
  (nQ,.fn 789),
  (oy,.fn 796),
  (oa,.fn 803),
  (oH,.fn 810),
  (oq,.fn 817),
  (oK,.fn 824),
  (nN,.fn 829),
  (oV,.fn 834),
  (qQ,.fn 839),
  (OE,.bi .len),
  (Rs,.bi .enum),
  (P3,.bi .str),
  (KY,.bi .max),
  (Rm,.bi .range),
  (JI,.bi .isi),
  (LS,.bi .ord)]
noncomputable def vw:Program:=view iK [33]
def loose:List Str:=[n0,n4,n7,rF,pZ,u9,pK,xi,qN,re,vI,p7,wQ,vj,wX,wj,GT,lQ,az,iN,nY,nQ,oy,oa,oH,oq,oK,nN,oV]
end
end
noncomputable abbrev BL (M:Nat) (Xt:Shared→Bool) {α:Type} (Yf:Shared→α) (Ya:World→α) (w:World):Prop:=(fun os=>(uo (stepOk 11 (some (.ref 6))) (stepT (denote treeTable) iK w) M ⟨T₀ w.params,11,{},Array.mk [],boot_drawn,boot_toks,os⟩ (topStub iK)).map fun s=>
 ((staticsOk (importedModules iK.main.body) (absHeap (T₀ w.params) 11 {}) s.abs.heap&&namesBound iK s.abs.heap&&gensDone s.abs&&laidKept (absHeap (T₀ w.params) 11 {}) s.abs.heap),
  openSeen vw loose (importedModules iK.main.body) Xt true s.abs,Yf s.abs))=fun U=>some (true,openGood vw loose,Ya w)
noncomputable abbrev uq (w:World):Prop:=BL 14000 (fun U=>true) (fun s=>xR.map s.heap.get?) (fun w=>(cE w.params).map fun p=>some p.2) w
theorem TI(w:World):uq (w.withFollow "special-get-raises" false):=by
 unfold uq BL;rw[PySem.W.Fast.te6613529449190102663,PySem.W.Fast.te10156331382660048174,PySem.W.Fast.te11892475500146522536,PySem.W.Fast.te14364793385576792824,PySem.W.Fast.te4187177175401517315,PySem.W.Fast.te5923862056798008813];kernel_rfl
theorem Kr(w:World):uq (w.withFollow "special-get-raises" true):=by
 unfold uq BL;rw[PySem.W.Fast.te6613529449190102663,PySem.W.Fast.te10156331382660048174,PySem.W.Fast.te11892475500146522536,PySem.W.Fast.te14364793385576792824,PySem.W.Fast.te4187177175401517315,PySem.W.Fast.te5923862056798008813];kernel_rfl
theorem NX:∀ w:World,uq w:=byRow2 "special-get-raises" TI Kr
noncomputable def fY:OpenLaw:={PySem.Challenge.rw_te0005_01 with prog:=iK}
theorem Jm:PySem.Challenge.rw_te0005_01=fY:=congrArg (fun p=>({PySem.Challenge.rw_te0005_01 with prog:=p}:OpenLaw)) LH
theorem KC:fY.wellSaid=true:=by rw[PySem.W.Fast.te9446332074065402090];kernel_rfl
theorem Tl:(defOf vw fY.row.name).isSome=true:=by kernel_rfl
noncomputable def hG:DefRec:=((defOf vw fY.row.name).get Tl).1
theorem Ql:defOf vw fY.row.name=some (hG,[]):=by kernel_rfl
theorem N4:∀ P,xR=(cE P).map (·.1):=fun U=>by kernel_rfl
theorem left:LeftO fY.row.prog vw loose (fun U=>true) (fun s=>xR.map s.heap.get?) (fun w=>(cE w.params).map fun p=>some p.2) 14200:=RJ P9 MZ NX (by decide)
theorem Rl:(chainsOk vw&&opensWell fY.row.prog&&(frees fY.row.toRowW&&fY.row.within.isEmpty))=true:=by kernel_rfl
theorem JV:fY.row.prog.theDef fY.row.name=some (hG.params,hG.body,hG.scope):=by kernel_rfl
theorem JC:kwWritten? hG.params.kwonlyargs hG.params.kw_defaults=some []:=by kernel_rfl
theorem K1:fY.row.prog.bare:=⟨rfl,rfl,rfl,rfl,rfl,by decide +kernel⟩
theorem QG:fY.row.records=[]:=by kernel_rfl
theorem MN:PySem.Challenge.rw_te0005_01.row.toRowW.promised:=by w_witness2
theorem PK:fY.row.toRowW.promised:=Jm▸MN
theorem K4(s:Shared):RecFacts fY.row.records s.heap:=by
 rw[QG];exact recFacts_of (R:=[]) (by rfl)
theorem head(walk:WalkO vw loose (fun U U=>True) (InK cE) fY.row.toRowW hG [] fun f vs=>PySem.call f vs):PySem.Challenge.rw_te0005_01.Holds:=by
 rw[Jm];refine holds_law KC fun k1=>?_;exact holds_open (q:=vw) (loose:=loose) (Xt:=fun U=>true) (XP:=fun U U=>True) (YP:=InK cE) (N:=14200) left (InK.of N4) InK.keeps
  (fun U U=>trivial) (fun U U U U U=>trivial) Ql JV JC (fun s U=>K4 s) (by rfl) k1 Rl K1 PK walk
end
section
section
theorem oB{motive:Bool→Prop}(t:Bool)(false:motive false)(true:motive true):motive t:=Bool.rec false true t
theorem oO{α:Type}{motive:Option α→Prop}(t:Option α)(none:motive none)(some:∀ a,motive (some a)):motive t:=Option.rec none some t
theorem oL{α:Type}{motive:List α→Prop}(t:List α)(nil:motive [])(cons:∀ a r,motive (a::r)):motive t:=List.rec nil (fun a r U=>cons a r) t
theorem j1{α:Type}{a b:α}{P:Prop}(h:some a=some b)(k:b=a→P):P:=k (osI h).symm
theorem j2{α β:Type}{a b:α}{c d:β}{P:Prop}(h:some (a,c)=some (b,d))(k:b=a→d=c→P):P:=j1 h fun e=>k (congrArg (·.1) e) (congrArg (·.2) e)
theorem j3{α β γ:Type}{a b:α}{c d:β}{e f:γ}{P:Prop}(h:some (a,c,e)=some (b,d,f))(k:b=a→d=c→f=e→P):P:=j2 h fun x y=>k x (congrArg (·.1) y) (congrArg (·.2) y)
inductive CC where
 |list (a:Addr) (vs:List Value) (n:Nat)
 |inst (a C d:Addr) (es:List DictEntry) (n:Nat)
structure Ev where
 iv:Nat→Int
 sv:Nat→List Nat
 P:Params
 ov:Nat→Value
 cv:Nat→CC
noncomputable def Ev.Ok(ε:Ev):Prop:=∀ i,ε.iv (2*i+1)=(ε.sv i).length
noncomputable def bY(ε:Ev):List (Nat×Int)→Int
 |[]=>0
 |p::r=>p.2*ε.iv p.1+bY ε r
noncomputable def am.val(ε:Ev)(x:am):Int:=x.c+bY ε x.l
variable {ε:Ev}
theorem QH(h:xC i=true):i=0:=by
 cases i with
 |ofNat n=>exact congrArg Int.ofNat (bX h)
 |negSucc n=>injection h
theorem Sw(v:Nat)(a:Int):∀ l,bY ε (sm v a l)=a*ε.iv v+bY ε l:=by
 intro L0;induction L0 with
 |nil=>rfl
 |cons p r ih=>
  show bY ε (Bool.rec (Bool.rec (p::sm v a r) ((v,a)::p::r) (Nat.blt v p.1)) (Bool.rec ((p.1,a+p.2)::r) r (xC (a+p.2))) (Nat.beq p.1 v))=a*ε.iv v+(p.2*ε.iv p.1+bY ε r);cases h:Nat.beq p.1 v with
  |true=>
   rw[bX h];cases q:xC (a+p.2) with
   |true=>rw[←Int.add_assoc,←Int.add_mul,QH q,Int.zero_mul,Int.zero_add]
   |false=>
    show (a+p.2)*ε.iv v+bY ε r=_;rw[Int.add_mul,Int.add_assoc]
  |false=>
   cases Nat.blt v p.1 with
   |true=>rfl
   |false=>
    show p.2*ε.iv p.1+bY ε (sm v a r)=_;rw[ih,Int.add_left_comm]
theorem Oo:∀ x y,bY ε (wb x y)=bY ε x+bY ε y:=by
 intro L0;induction L0 with
 |nil=>
  intro y;show bY ε y=0+_;lia
 |cons x0 r ih=>
  obtain⟨v,a⟩:=x0;intro y;show bY ε (wb r (sm v a y))=a*ε.iv v+bY ε r+bY ε y;rw[ih,Sw];lia
theorem bV(i:Int):(am.k i).val ε=i:=by show i+0=i;lia
theorem PQ(l r:List (Nat×Int)):bY ε (yl l r)=bY ε l+bY ε r:=by
 induction r using oL with
 |nil=>show bY ε l=_+0;lia
 |cons b r=>induction l using oL with
  |nil=>show bY ε (b::r)=0+_;lia
  |cons a l=>exact Oo (a::l) (b::r)
theorem gQ(x y:am):(x.add y).val ε=x.val ε+y.val ε:=by
 show x.c+y.c+bY ε (yl x.l y.l)=x.c+bY ε x.l+(y.c+bY ε y.l);rw[PQ];lia
theorem Mb:∀ l:List (Nat×Int),bY ε (l.map fun p=>(p.1,-p.2))=- bY ε l:=by
 intro L0;induction L0 with
 |nil=>
  exact rfl
 |cons x0 r ih=>
  obtain⟨v,a⟩:=x0;show -a*ε.iv v+bY ε (r.map _)=-(a*ε.iv v+bY ε r);rw[ih,Int.neg_mul];lia
theorem LA(x:am):x.neg.val ε=- x.val ε:=by
 show -x.c+bY ε (x.l.map _)=-(x.c+bY ε x.l);rw[Mb];lia
theorem np(x y:am):(x.sub y).val ε=x.val ε-y.val ε:=by
 unfold am.sub;rw[gQ,LA];lia
theorem gb{x:am}(h:x.conc=some i):x.val ε=i:=by
 unfold am.conc at h;unfold am.val;cases e:x.l with
 |nil=>rw[e] at h;rw[←osI h];exact aY _
 |cons=>rw[e] at h;injection h
noncomputable def aM(β:Bd)(ε:Ev):Prop:=∀ v p,qI β v=some p→p.1≤ε.iv v∧ε.iv v≤p.2
theorem qp(a b:Int):eC a b=true↔a≤b:=by
 unfold eC;cases q:b-a with
 |ofNat n=>exact⟨fun U=>Int.le_of_sub_nonneg (by rw[q];exact bK n),fun U=>rfl⟩
 |negSucc n=>exact⟨fun h=>by injection h,fun h=>absurd (Int.sub_nonneg_of_le h) (by rw[q];exact Int.not_le.mpr (Int.negSucc_lt_zero n))⟩
variable {β:Bd}
theorem LF(hb:aM β ε):∀ {l:List (Nat×Int)} {t:Int},sI β l=some t→t≤bY ε l:=by
 intro L0;induction L0 with
 |nil=>
  intro t h;rw[←osI h];exact bz _
 |cons p r ih=>
  intro t h;replace h:Option.rec none (fun q=>Option.rec none (fun t=>some (Int.rec (fun U=>p.2*q.1) (fun U=>p.2*q.2) p.2+t)) (sI β r)) (qI β p.1)=some t:=h;cases e1:qI β p.1 with
  |none=>rw[e1] at h;injection h
  |some q=>
   cases e2:sI β r with
   |none=>rw[e1,e2] at h;injection h
   |some s=>
    rw[e1,e2] at h;have h1:=hb p.1 _ e1;have h2:=ih e2;rw[←osI h];show _≤p.2*ε.iv p.1+bY ε r;cases p.2 with
    |ofNat n=>exact Int.add_le_add (Int.mul_le_mul_of_nonneg_left h1.1 (bK n)) h2
    |negSucc n=>exact Int.add_le_add (Int.mul_le_mul_of_nonpos_left (Int.le_of_lt (Int.negSucc_lt_zero n)) h1.2) h2
theorem sj(hb:aM β ε){x:am}(h:x.lo β=some t):t≤x.val ε:=by
 unfold am.lo at h;cases e:sI β x.l with
 |none=>rw[e] at h;injection h
 |some s=>rw[e] at h;rw[←osI h];exact Int.add_le_add_left (LF hb e) _
theorem PX(hb:aM β ε)(h:yb β x y=some b):b=decide (x.val ε<y.val ε):=by
 unfold yb at h;cases e:(y.sub x).lo β with
 |none=>rw[e] at h;injection h
 |some d=>
  rw[e] at h;have h1:=sj hb e;rw[np] at h1;replace h:Bool.rec (Option.rec none (fun e=>Bool.rec none (some false) (eC 0 e)) ((x.sub y).lo β)) (some true) (eC 1 d)=some b:=h;cases q:eC 1 d with
  |true=>
   rw[q] at h;have:=(qp 1 d).mp q;rw[←osI h];exact(decide_eq_true (by lia)).symm
  |false=>
   rw[q] at h;replace h:Option.rec none (fun e=>Bool.rec none (some false) (eC 0 e)) ((x.sub y).lo β)=some b:=h;cases e2:(x.sub y).lo β with
   |none=>rw[e2] at h;injection h
   |some f=>
    rw[e2] at h;have h2:=sj hb e2;rw[np] at h2;replace h:Bool.rec none (some false) (eC 0 f)=some b:=h;cases q2:eC 0 f with
    |true=>
     rw[q2] at h;have:=(qp 0 f).mp q2;rw[←osI h];exact(decide_eq_false (by lia)).symm
    |false=>rw[q2] at h;injection h
set_option tactic.hygienic true in
theorem L9(a b:Int):A5 a b=decide (a<b):=by
 unfold A5;cases a<;>cases b<;>dsimp only
 ·rename_i x y
  cases h:Nat.blt x y with
  |true=>have:x<y:=df h;symm;rw[decide_eq_true_iff];exact Int.ofNat_lt.mpr this
  |false=>
   have:¬ x<y:=fun q=>by have:Nat.blt x y=true:=Nat.ble_eq_true_of_le q;rw[this] at h;injection h
   symm;rw[decide_eq_false_iff_not];exact fun q=>this (Int.ofNat_lt.mp q)
 ·rename_i x y
  symm;rw[decide_eq_false_iff_not];have:=Int.negSucc_lt_zero y;have:=bK x;show ¬ ((x:Int)<_);lia
 ·rename_i x y
  symm;rw[decide_eq_true_iff];have:=Int.negSucc_lt_zero x;have:=bK y;show _<(y:Int);lia
 ·rename_i x y
  have e1:Int.negSucc x=-((x:Int)+1):=Int.negSucc_eq x;have e2:Int.negSucc y=-((y:Int)+1):=Int.negSucc_eq y;cases h:Nat.blt y x with
  |true=>have:y<x:=df h;symm;rw[decide_eq_true_iff];lia
  |false=>
   have:¬ y<x:=fun q=>by have:Nat.blt y x=true:=Nat.ble_eq_true_of_le q;rw[this] at h;injection h
   symm;rw[decide_eq_false_iff_not];lia
set_option tactic.hygienic true in
theorem yW(a b:Int):lM a b=decide (a=b):=by
 unfold lM;cases a<;>cases b<;>dsimp only
 ·rename_i x y
  cases h:Nat.beq x y with
  |true=>have:=bX h;subst this;simp
  |false=>have:=Nat.ne_of_beq_eq_false h;symm;rw[decide_eq_false_iff_not];intro e;exact this (Int.ofNat.inj e)
 ·symm;rw[decide_eq_false_iff_not];intro e;injection e
 ·symm;rw[decide_eq_false_iff_not];intro e;injection e
 ·rename_i x y
  cases h:Nat.beq x y with
  |true=>have:=bX h;subst this;simp
  |false=>have:=Nat.ne_of_beq_eq_false h;symm;rw[decide_eq_false_iff_not];intro e;exact this (Int.negSucc.inj e)
theorem De(h:rU x y=true):x.val ε=x.c∧y.val ε=y.c:=by
 unfold rU at h;unfold am.val;cases hx:x.l with
 |nil=>
  cases hy:y.l with
  |nil=>exact⟨aY _,aY _⟩
  |cons=>rw[hx,hy] at h;injection h
 |cons=>rw[hx] at h;injection h
theorem ul(hb:aM β ε)(h:lD β x y=some b):b=decide (x.val ε<y.val ε):=by
 unfold lD at h;cases q:rU x y with
 |true=>
  rw[q] at h;obtain⟨e1,e2⟩:=De (ε:=ε) q;rw[e1,e2,←L9];exact(osI h).symm
 |false=>rw[q] at h;exact PX hb h
theorem uQ(hb:aM β ε)(h:jY β x y=some b):b=decide (x.val ε≤y.val ε):=by
 unfold jY at h;cases e:lD β y x with
 |none=>rw[e] at h;injection h
 |some c=>
  rw[e] at h;rw[←osI h,ul hb e]
  by_cases q:y.val ε<x.val ε
  ·rw[decide_eq_true q];exact(decide_eq_false (Int.not_le.mpr q)).symm
  ·rw[decide_eq_false q];exact(decide_eq_true (Int.not_lt.mp q)).symm
theorem QW(hb:aM β ε)(h:zH β x y=some b):b=decide (x.val ε=y.val ε):=by
 unfold zH at h;cases e1:(y.sub x).lo β with
 |none=>rw[e1] at h;injection h
 |some d=>
  cases e2:(x.sub y).lo β with
  |none=>rw[e1,e2] at h;injection h
  |some e=>
   rw[e1,e2] at h;replace h:Bool.rec (Bool.rec (Bool.rec none (Bool.rec none (some true) (eC 0 e)) (eC 0 d)) (some false) (eC 1 e)) (some false) (eC 1 d)=some b:=h;have h1:=sj hb e1;have h2:=sj hb e2;rw[np] at h1 h2;clear e1 e2;have no:1≤d∨1≤e→some false=some b→b=decide (x.val ε=y.val ε):=fun q h=>by
    rw[←osI h];exact(decide_eq_false (by lia)).symm
   cases a1:eC 1 d with
   |true=>rw[a1] at h;exact no (.inl ((qp 1 d).mp a1)) h
   |false=>
    cases a2:eC 1 e with
    |true=>rw[a1,a2] at h;exact no (.inr ((qp 1 e).mp a2)) h
    |false=>
     cases a3:eC 0 d with
     |false=>rw[a1,a2,a3] at h;cases eC 0 e<;>injection h
     |true=>
      cases a4:eC 0 e with
      |false=>rw[a1,a2,a3,a4] at h;injection h
      |true=>
       rw[a1,a2,a3,a4] at h;rw[←osI h];have i3:=(qp 0 d).mp a3;have i4:=(qp 0 e).mp a4;exact(decide_eq_true (by lia)).symm
theorem zt(hb:aM β ε)(h:se β x y=some b):b=decide (x.val ε=y.val ε):=by
 unfold se at h;cases q:rU x y with
 |true=>
  rw[q] at h;obtain⟨e1,e2⟩:=De (ε:=ε) q;rw[e1,e2,←yW];exact(osI h).symm
 |false=>rw[q] at h;exact QW hb h
noncomputable def Pc.val(ε:Ev):Pc→List Nat
 |.lit l=>l
 |.var i=>ε.sv i
 |.rep ch n=>List.replicate (n.val ε).toNat ch
noncomputable def SS.val(ε:Ev):SS→List Nat
 |[]=>[]
 |p::r=>p.val ε++SS.val ε r
noncomputable def cG(ε:Ev)(s:SS):Prop:=∀ p∈s,match p with|.rep _ n=>0≤n.val ε|_=>True
theorem fG:∀ x y:SS,(x.app y).val ε=x.val ε++y.val ε
 |[],y=>rfl
 |[.lit a],[]=>(af (a++[])).symm
 |[.lit a],.lit b::r=>by
  show (a++b)++SS.val ε r=(a++[])++(b++SS.val ε r);simp
 |[.lit a],.var i::r=>congrArg (·++SS.val ε (.var i::r)) (af a).symm
 |[.lit a],.rep c n::r=>congrArg (·++SS.val ε (.rep c n::r)) (af a).symm
 |.var i::x,y=>by
  show Pc.val ε (.var i)++(SS.app x y).val ε=_;rw[fG x y];exact(aX ..).symm
 |.rep c n::x,y=>by
  show Pc.val ε (.rep c n)++(SS.app x y).val ε=_;rw[fG x y];exact(aX ..).symm
 |.lit a::p::x,y=>by
  show Pc.val ε (.lit a)++(SS.app (p::x) y).val ε=_;rw[fG (p::x) y];exact(aX ..).symm
theorem kK:∀ {x y:SS},cG ε x→cG ε y→cG ε (x.app y)
 |[],y,_,hy=>hy
 |[.lit a],[],hx,_=>hx
 |[.lit a],.lit b::r,_,hy=>fun p hp=>by
  rcases bU hp with rfl|hp
  ·trivial
  ·exact hy p (.tail _ hp)
 |[.lit a],.var i::r,hx,hy=>fun p hp=>by
  rcases bU hp with rfl|hp
  ·trivial
  ·exact hy p hp
 |[.lit a],.rep c n::r,hx,hy=>fun p hp=>by
  rcases bU hp with rfl|hp
  ·trivial
  ·exact hy p hp
 |.var i::x,y,hx,hy=>fun p hp=>by
  rcases bU hp with rfl|hp
  ·trivial
  ·exact kK (fun q hq=>hx q (.tail _ hq)) hy p hp
 |.rep c n::x,y,hx,hy=>fun p hp=>by
  rcases bU hp with rfl|hp
  ·exact hx _ (.head _)
  ·exact kK (fun q hq=>hx q (.tail _ hq)) hy p hp
 |.lit a::p'::x,y,hx,hy=>fun p hp=>by
  rcases bU hp with rfl|hp
  ·trivial
  ·exact kK (fun q hq=>hx q (.tail _ hq)) hy p hp
theorem b7{α:Type}:∀ l:List α,aA l=l.length:=by
 intro L0;induction L0 with
 |nil=>
  exact rfl
 |cons a r ih=>
  show Nat.succ (aA r)=_;rw[ih];rfl
theorem jn(he:ε.Ok):∀ {s:SS},cG ε s→s.len.val ε=(s.val ε).length
 |[],_=>bV 0
 |.lit l::r,h=>by
  show ((am.k (.ofNat (aA l))).add (SS.len r)).val ε=_;rw[gQ,bV,jn he (s:=r) (fun p hp=>h p (.tail _ hp)),b7];exact congrArg Int.ofNat (List.length_append (as:=l)).symm
 |.var i::r,h=>by
  show ((am.mk 0 [(2*i+1,1)]).add (SS.len r)).val ε=_;rw[gQ,jn he (s:=r) (fun p hp=>h p (.tail _ hp))];show (0+(1*ε.iv (2*i+1)+0))+_=_;rw[he i];refine .trans ?_ (congrArg Int.ofNat (List.length_append (as:=ε.sv i)).symm);show (0+(1*((ε.sv i).length:Int)+0))+((SS.val ε r).length:Int)=((ε.sv i).length:Int)+((SS.val ε r).length:Int);lia
 |.rep c n::r,h=>by
  show (n.add (SS.len r)).val ε=_;rw[gQ,jn he (s:=r) (fun p hp=>h p (.tail _ hp))];have:=h _ (.head _);have:0≤n.val ε:=this;refine .trans ?_ (congrArg Int.ofNat (List.length_append (as:=List.replicate _ c)).symm);rw[List.length_replicate];show n.val ε+_=((n.val ε).toNat:Int)+((SS.val ε r).length:Int);rw[Int.toNat_of_nonneg this]
theorem iE{s:SS}{l:List Nat}(h:s.conc=some l):s.val ε=l:=by
 induction s using oL with
 |nil=>(apply j1 h;clear h;rintro rfl);rfl
 |cons p r=>
  induction p using Pc.casesOn<;>induction r using oL<;>try (injection h;done)
  (apply j1 h;clear h;rintro rfl);exact af _
theorem db(l:List Nat):(SS.k l).val ε=l:=by
 cases l with
 |nil=>rfl
 |cons a l=>exact af _
theorem gG(l:List Nat):cG ε (SS.k l):=by
 cases l with
 |nil=>intro p hp;cases hp
 |cons a l=>intro p hp;rw[cH hp];trivial
theorem gJ:∀ {a b:List Nat},co a b=true↔a=b
 |[],[]=>⟨fun U=>rfl,fun U=>rfl⟩
 |[],_::_=>⟨fun h=>(nomatch (show false=true from h)),nofun⟩
 |_::_,[]=>⟨fun h=>(nomatch (show false=true from h)),nofun⟩
 |a::x,b::y=>by
  have e:co (a::x) (b::y)=(Nat.beq a b&&co x y):=by
   show Bool.rec (motive:=fun U=>Bool) false (co x y) (Nat.beq a b)=_;cases Nat.beq a b<;>rfl
  rw[e,Bool.and_eq_true,gJ,List.cons.injEq];exact⟨fun h=>⟨bX h.1,h.2⟩,fun h=>⟨by rw[h.1];exact Nat.beq_refl _,h.2⟩⟩
theorem hU:seq a b=true↔a=b:=by
 constructor
 ·intro h
  unfold seq at h;cases q:Nat.beq (ru a) (ru b) with
  |false=>rw[q] at h;injection h
  |true=>
   rw[q] at h;replace h:=gJ.mp h;cases a;cases b;congr 1;exact Array.ext' h
 ·rintro rfl
  unfold seq;have:Nat.beq (ru a) (ru a)=true:=Nat.beq_refl _;rw[this];exact gJ.mpr rfl
theorem Da(h:seq a b=false):a≠b:=fun e=>by rw[hU.mpr e] at h;injection h
theorem dH{α:Type}:∀ (l:List α) (n:Nat),ak l n=l[n]?
 |[],_=>by show none=_;simp
 |a::r,0=>rfl
 |a::r,n+1=>by show ak r n=_;rw[dH r n];rfl
theorem mB{α:Type}:∀ (n:Nat) (l:List α),aP n l=l.take n
 |0,_=>rfl
 |n+1,[]=>rfl
 |n+1,a::r=>by show a::aP n r=_;rw[mB n r];rfl
theorem uh{α:Type}:∀ (n:Nat) (l:List α),bk n l=l.drop n
 |0,_=>rfl
 |n+1,[]=>rfl
 |n+1,a::r=>by show bk n r=_;rw[uh n r];rfl
noncomputable def OB{α:Type}(o:Option α)(P:α→Prop):Prop:=∀ x,o=some x→P x
theorem OB.pure{α:Type}{x:α}{P:α→Prop}(h:P x):OB (some x) P:=fun U e=>osI e▸h
theorem OB.no{α:Type}{P:α→Prop}:OB none P:=nofun
theorem OB.ob{α β:Type}{m:Option α}{f:α→Option β}{P:β→Prop}(h:∀ x,m=some x→OB (f x) P):OB (Mine.ob m f) P:=by
 induction m using oO with
 |none=>exact OB.no
 |some x=>exact h x rfl
theorem OB.obp{α β γ:Type}{m:Option (α×β)}{f:α→β→Option γ}{P:γ→Prop}(h:∀ x y,m=some (x,y)→OB (f x y) P):OB (Mine.obp m f) P:=by
 induction m using oO with
 |none=>exact OB.no
 |some x=>exact h x.1 x.2 rfl
theorem OB.gd{α:Type}{b:Bool}{k:Option α}{P:α→Prop}(h:b=true→OB k P):OB (Mine.gd b k) P:=by
 induction b using oB with
 |false=>exact OB.no
 |true=>exact h rfl
theorem Bj{α β:Type}{m:Option α}{f:α→Option β}{y:β}(h:ob m f=some y):∃ x,m=some x∧f x=some y:=by
 induction m using oO with
 |none=>injection h
 |some x=>exact⟨x,rfl,h⟩
theorem LG{α β γ:Type}{m:Option (α×β)}{f:α→β→Option γ}{z:γ}(h:obp m f=some z):∃ x y,m=some (x,y)∧f x y=some z:=by
 induction m using oO with
 |none=>injection h
 |some x=>exact⟨x.1,x.2,rfl,h⟩
theorem KM{α β γ δ:Type}{m:Option (α×β×γ)}{f:α→β→γ→Option δ}{z:δ}(h:mR m f=some z):∃ x y w,m=some (x,y,w)∧f x y w=some z:=by
 induction m using oO with
 |none=>injection h
 |some x=>exact⟨x.1,x.2.1,x.2.2,rfl,h⟩
theorem Sa{α:Type}{b:Bool}{k:Option α}{y:α}(h:gd b k=some y):b=true∧k=some y:=by
 induction b using oB with
 |false=>injection h
 |true=>exact⟨rfl,h⟩
theorem Jk{α1:Type}{α2:Type}{p1:α1→Prop}{p2:α1→Prop}{p3:α1→α2→Prop}{P:Prop}(h:∃ x1,p1 x1∧p2 x1∧(∃ x2,p3 x1 x2))(k:∀ x1,p1 x1→p2 x1→∀ x2,p3 x1 x2→P):P:=h.elim fun x1 h=>h.elim fun h1 h=>h.elim fun h2 h=>h.elim fun x2 h=>k x1 h1 h2 x2 h
theorem mC{α1:Type}{α2:Type}{α3:Type}{p1:α1→α2→α3→Prop}{p2:α1→α2→α3→Prop}{P:Prop}(h:∃ x1,∃ x2,∃ x3,p1 x1 x2 x3∧p2 x1 x2 x3)(k:∀ x1,∀ x2,∀ x3,p1 x1 x2 x3→p2 x1 x2 x3→P):P:=h.elim fun x1 h=>h.elim fun x2 h=>h.elim fun x3 h=>h.elim fun h1 h=>k x1 x2 x3 h1 h
theorem aN{p1:Prop}{p2:Prop}{P:Prop}(h:p1∧p2)(k:p1→p2→P):P:=h.elim fun h1 h2=>k h1 h2
theorem d5{p1:Prop}{p2:Prop}{p3:Prop}{P:Prop}(h:p1∧p2∧p3)(k:p1→p2→p3→P):P:=h.elim fun h1 h=>h.elim fun h2 h3=>k h1 h2 h3
theorem oM{p1:Prop}{p2:Prop}{p3:Prop}{p4:Prop}{p5:Prop}{P:Prop}(h:p1∧p2∧p3∧p4∧p5)(k:p1→p2→p3→p4→p5→P):P:=h.elim fun h1 h=>h.elim fun h2 h=>h.elim fun h3 h=>h.elim fun h4 h5=>k h1 h2 h3 h4 h5
theorem mV{p1:Prop}{p2:Prop}{p3:Prop}{p4:Prop}{p5:Prop}{p6:Prop}{P:Prop}(h:p1∧p2∧p3∧p4∧p5∧p6)(k:p1→p2→p3→p4→p5→p6→P):P:=h.elim fun h1 h=>h.elim fun h2 h=>h.elim fun h3 h=>h.elim fun h4 h=>h.elim fun h5 h6=>k h1 h2 h3 h4 h5 h6
theorem bx{α1:Type}{p1:α1→Prop}{P:Prop}(h:∃ x1,p1 x1)(k:∀ x1,p1 x1→P):P:=h.elim fun x1 h1=>k x1 h1
theorem ah{α1:Type}{p1:α1→Prop}{p2:α1→Prop}{P:Prop}(h:∃ x1,p1 x1∧p2 x1)(k:∀ x1,p1 x1→p2 x1→P):P:=h.elim fun x1 h=>h.elim fun h1 h2=>k x1 h1 h2
theorem dh{α1:Type}{p1:α1→Prop}{p2:α1→Prop}{p3:α1→Prop}{P:Prop}(h:∃ x1,p1 x1∧p2 x1∧p3 x1)(k:∀ x1,p1 x1→p2 x1→p3 x1→P):P:=h.elim fun x1 h=>h.elim fun h1 h=>h.elim fun h2 h3=>k x1 h1 h2 h3
theorem sg{α1:Type}{p1:α1→Prop}{p2:α1→Prop}{p3:α1→Prop}{p4:α1→Prop}{P:Prop}(h:∃ x1,p1 x1∧p2 x1∧p3 x1∧p4 x1)(k:∀ x1,p1 x1→p2 x1→p3 x1→p4 x1→P):P:=h.elim fun x1 h=>h.elim fun h1 h=>h.elim fun h2 h=>h.elim fun h3 h4=>k x1 h1 h2 h3 h4
theorem yY{α1:Type}{p1:α1→Prop}{p2:α1→Prop}{p3:α1→Prop}{p4:α1→Prop}{p5:α1→Prop}{P:Prop}(h:∃ x1,p1 x1∧p2 x1∧p3 x1∧p4 x1∧p5 x1)(k:∀ x1,p1 x1→p2 x1→p3 x1→p4 x1→p5 x1→P):P:=h.elim fun x1 h=>h.elim fun h1 h=>h.elim fun h2 h=>h.elim fun h3 h=>h.elim fun h4 h5=>k x1 h1 h2 h3 h4 h5
theorem rA{α1:Type}{α2:Type}{p1:α1→α2→Prop}{P:Prop}(h:∃ x1,∃ x2,p1 x1 x2)(k:∀ x1,∀ x2,p1 x1 x2→P):P:=h.elim fun x1 h=>h.elim fun x2 h1=>k x1 x2 h1
theorem tT{α1:Type}{α2:Type}{p1:α1→α2→Prop}{p2:α1→α2→Prop}{P:Prop}(h:∃ x1,∃ x2,p1 x1 x2∧p2 x1 x2)(k:∀ x1,∀ x2,p1 x1 x2→p2 x1 x2→P):P:=h.elim fun x1 h=>h.elim fun x2 h=>h.elim fun h1 h2=>k x1 x2 h1 h2
theorem ir{α1:Type}{α2:Type}{p1:α1→α2→Prop}{p2:α1→α2→Prop}{p3:α1→α2→Prop}{P:Prop}(h:∃ x1,∃ x2,p1 x1 x2∧p2 x1 x2∧p3 x1 x2)(k:∀ x1,∀ x2,p1 x1 x2→p2 x1 x2→p3 x1 x2→P):P:=h.elim fun x1 h=>h.elim fun x2 h=>h.elim fun h1 h=>h.elim fun h2 h3=>k x1 x2 h1 h2 h3
theorem eZ{α1:Type}{α2:Type}{α3:Type}{p1:α1→α2→α3→Prop}{p2:α1→α2→α3→Prop}{p3:α1→α2→α3→Prop}{P:Prop}(h:∃ x1,∃ x2,∃ x3,p1 x1 x2 x3∧p2 x1 x2 x3∧p3 x1 x2 x3)(k:∀ x1,∀ x2,∀ x3,p1 x1 x2 x3→p2 x1 x2 x3→p3 x1 x2 x3→P):P:=h.elim fun x1 h=>h.elim fun x2 h=>h.elim fun x3 h=>h.elim fun h1 h=>h.elim fun h2 h3=>k x1 x2 x3 h1 h2 h3
theorem dD{α1:Type}{α2:Type}{α3:Type}{p1:α1→α2→α3→Prop}{p2:α1→α2→α3→Prop}{p3:α1→α2→α3→Prop}{p4:α1→α2→α3→Prop}{P:Prop}(h:∃ x1,∃ x2,∃ x3,p1 x1 x2 x3∧p2 x1 x2 x3∧p3 x1 x2 x3∧p4 x1 x2 x3)(k:∀ x1,∀ x2,∀ x3,p1 x1 x2 x3→p2 x1 x2 x3→p3 x1 x2 x3→p4 x1 x2 x3→P):P:=h.elim fun x1 h=>h.elim fun x2 h=>h.elim fun x3 h=>h.elim fun h1 h=>h.elim fun h2 h=>h.elim fun h3 h4=>k x1 x2 x3 h1 h2 h3 h4
theorem ow{α1:Type}{α2:Type}{α3:Type}{α4:Type}{p1:α1→α2→α3→α4→Prop}{p2:α1→α2→α3→α4→Prop}{p3:α1→α2→α3→α4→Prop}{P:Prop}(h:∃ x1,∃ x2,∃ x3,∃ x4,p1 x1 x2 x3 x4∧p2 x1 x2 x3 x4∧p3 x1 x2 x3 x4)(k:∀ x1,∀ x2,∀ x3,∀ x4,p1 x1 x2 x3 x4→p2 x1 x2 x3 x4→p3 x1 x2 x3 x4→P):P:=h.elim fun x1 h=>h.elim fun x2 h=>h.elim fun x3 h=>h.elim fun x4 h=>h.elim fun h1 h=>h.elim fun h2 h3=>k x1 x2 x3 x4 h1 h2 h3
theorem nu{α1:Type}{α2:Type}{α3:Type}{α4:Type}{p1:α1→α2→α3→α4→Prop}{p2:α1→α2→α3→α4→Prop}{p3:α1→α2→α3→α4→Prop}{p4:α1→α2→α3→α4→Prop}{P:Prop}(h:∃ x1,∃ x2,∃ x3,∃ x4,p1 x1 x2 x3 x4∧p2 x1 x2 x3 x4∧p3 x1 x2 x3 x4∧p4 x1 x2 x3 x4)(k:∀ x1,∀ x2,∀ x3,∀ x4,p1 x1 x2 x3 x4→p2 x1 x2 x3 x4→p3 x1 x2 x3 x4→p4 x1 x2 x3 x4→P):P:=h.elim fun x1 h=>h.elim fun x2 h=>h.elim fun x3 h=>h.elim fun x4 h=>h.elim fun h1 h=>h.elim fun h2 h=>h.elim fun h3 h4=>k x1 x2 x3 x4 h1 h2 h3 h4
theorem rB{α1:Type}{α2:Type}{α3:Type}{α4:Type}{p1:α1→α2→α3→α4→Prop}{p2:α1→α2→α3→α4→Prop}{p3:α1→α2→α3→α4→Prop}{p4:α1→α2→α3→α4→Prop}{p5:α1→α2→α3→α4→Prop}{p6:α1→α2→α3→α4→Prop}{P:Prop}(h:∃ x1,∃ x2,∃ x3,∃ x4,p1 x1 x2 x3 x4∧p2 x1 x2 x3 x4∧p3 x1 x2 x3 x4∧p4 x1 x2 x3 x4∧p5 x1 x2 x3 x4∧p6 x1 x2 x3 x4)(k:∀ x1,∀ x2,∀ x3,∀ x4,p1 x1 x2 x3 x4→p2 x1 x2 x3 x4→p3 x1 x2 x3 x4→p4 x1 x2 x3 x4→p5 x1 x2 x3 x4→p6 x1 x2 x3 x4→P):P:=h.elim fun x1 h=>h.elim fun x2 h=>h.elim fun x3 h=>h.elim fun x4 h=>h.elim fun h1 h=>h.elim fun h2 h=>h.elim fun h3 h=>h.elim fun h4 h=>h.elim fun h5 h6=>k x1 x2 x3 x4 h1 h2 h3 h4 h5 h6
theorem Kd{α1:Type}{α2:Type}{α3:Type}{α4:Type}{α5:Type}{p1:α1→α2→α3→α4→α5→Prop}{p2:α1→α2→α3→α4→α5→Prop}{p3:α1→α2→α3→α4→α5→Prop}{p4:α1→α2→α3→α4→α5→Prop}{p5:α1→α2→α3→α4→α5→Prop}{P:Prop}(h:∃ x1,∃ x2,∃ x3,∃ x4,∃ x5,p1 x1 x2 x3 x4 x5∧p2 x1 x2 x3 x4 x5∧p3 x1 x2 x3 x4 x5∧p4 x1 x2 x3 x4 x5∧p5 x1 x2 x3 x4 x5)(k:∀ x1,∀ x2,∀ x3,∀ x4,∀ x5,p1 x1 x2 x3 x4 x5→p2 x1 x2 x3 x4 x5→p3 x1 x2 x3 x4 x5→p4 x1 x2 x3 x4 x5→p5 x1 x2 x3 x4 x5→P):P:=h.elim fun x1 h=>h.elim fun x2 h=>h.elim fun x3 h=>h.elim fun x4 h=>h.elim fun x5 h=>h.elim fun h1 h=>h.elim fun h2 h=>h.elim fun h3 h=>h.elim fun h4 h5=>k x1 x2 x3 x4 x5 h1 h2 h3 h4 h5
theorem kq{α1:Type}{α2:Type}{α3:Type}{α4:Type}{α5:Type}{p1:α1→α2→α3→α4→α5→Prop}{p2:α1→α2→α3→α4→α5→Prop}{p3:α1→α2→α3→α4→α5→Prop}{p4:α1→α2→α3→α4→α5→Prop}{p5:α1→α2→α3→α4→α5→Prop}{p6:α1→α2→α3→α4→α5→Prop}{P:Prop}(h:∃ x1,∃ x2,∃ x3,∃ x4,∃ x5,p1 x1 x2 x3 x4 x5∧p2 x1 x2 x3 x4 x5∧p3 x1 x2 x3 x4 x5∧p4 x1 x2 x3 x4 x5∧p5 x1 x2 x3 x4 x5∧p6 x1 x2 x3 x4 x5)(k:∀ x1,∀ x2,∀ x3,∀ x4,∀ x5,p1 x1 x2 x3 x4 x5→p2 x1 x2 x3 x4 x5→p3 x1 x2 x3 x4 x5→p4 x1 x2 x3 x4 x5→p5 x1 x2 x3 x4 x5→p6 x1 x2 x3 x4 x5→P):P:=h.elim fun x1 h=>h.elim fun x2 h=>h.elim fun x3 h=>h.elim fun x4 h=>h.elim fun x5 h=>h.elim fun h1 h=>h.elim fun h2 h=>h.elim fun h3 h=>h.elim fun h4 h=>h.elim fun h5 h6=>k x1 x2 x3 x4 x5 h1 h2 h3 h4 h5 h6
theorem nq{p1:Prop}{p2:Prop}{p3:Prop}{p4:Prop}{P:Prop}(h:p1∧p2∧p3∧p4)(k:p1→p2→p3→p4→P):P:=h.elim fun h1 h=>h.elim fun h2 h=>h.elim fun h3 h4=>k h1 h2 h3 h4
theorem sR{α1:Type}{α2:Type}{p1:α1→α2→Prop}{p2:α1→α2→Prop}{p3:α1→α2→Prop}{p4:α1→α2→Prop}{P:Prop}(h:∃ x1,∃ x2,p1 x1 x2∧p2 x1 x2∧p3 x1 x2∧p4 x1 x2)(k:∀ x1,∀ x2,p1 x1 x2→p2 x1 x2→p3 x1 x2→p4 x1 x2→P):P:=h.elim fun x1 h=>h.elim fun x2 h=>h.elim fun h1 h=>h.elim fun h2 h=>h.elim fun h3 h4=>k x1 x2 h1 h2 h3 h4
theorem xH{α1:Type}{α2:Type}{p1:α1→α2→Prop}{p2:α1→α2→Prop}{p3:α1→α2→Prop}{p4:α1→α2→Prop}{p5:α1→α2→Prop}{P:Prop}(h:∃ x1,∃ x2,p1 x1 x2∧p2 x1 x2∧p3 x1 x2∧p4 x1 x2∧p5 x1 x2)(k:∀ x1,∀ x2,p1 x1 x2→p2 x1 x2→p3 x1 x2→p4 x1 x2→p5 x1 x2→P):P:=h.elim fun x1 h=>h.elim fun x2 h=>h.elim fun h1 h=>h.elim fun h2 h=>h.elim fun h3 h=>h.elim fun h4 h5=>k x1 x2 h1 h2 h3 h4 h5
theorem aI{α β:Type}{m:Option α}{f:α→Option β}{r:β}{P:Prop}(h:ob m f=some r)(k:∀ a,m=some a→f a=some r→P):P:=(Bj h).elim fun a h=>h.elim fun h1 h2=>k a h1 h2
theorem b5{α β γ:Type}{m:Option (α×β)}{f:α→β→Option γ}{r:γ}{P:Prop}(h:obp m f=some r)(k:∀ a b,m=some (a,b)→f a b=some r→P):P:=(LG h).elim fun a h=>h.elim fun b h=>h.elim fun h1 h2=>k a b h1 h2
theorem v7{α β γ δ:Type}{m:Option (α×β×γ)}{f:α→β→γ→Option δ}{r:δ}{P:Prop}(h:mR m f=some r)(k:∀ a b c,m=some (a,b,c)→f a b c=some r→P):P:=(KM h).elim fun a h=>h.elim fun b h=>h.elim fun c h=>h.elim fun h1 h2=>k a b c h1 h2
theorem bJ{α:Type}{b:Bool}{k:Option α}{r:α}{P:Prop}(h:gd b k=some r)(q:b=true→k=some r→P):P:=(Sa h).elim fun h1 h2=>q h1 h2
end
end
section
set_option backward.match.sparseCases false
section
section
variable {ε:Ev}
theorem zQ(he:ε.Ok)(h:cG ε (p::r)):p.len.val ε=((p.val ε).length:Int):=by
 have hp:=h p (.head _);induction p using Pc.casesOn with
 |lit l=>show (am.k (.ofNat (aA l))).val ε=_;rw[bV,b7];rfl
 |var i=>show (0+(1*ε.iv (2*i+1)+0))=_;rw[he i];show (0+(1*((ε.sv i).length:Int)+0))=((ε.sv i).length:Int);lia
 |rep c n=>show n.val ε=((List.replicate (n.val ε).toNat c).length:Int);rw[List.length_replicate];have:0≤n.val ε:=hp;lia
theorem cG.tl(h:cG ε (p::r)):cG ε r:=fun q hq=>h q (.tail _ hq)
theorem AF(h:kz o l=some k):o.val ε=(k:Int)∧k<l.length:=by
 apply aI h;clear h;intro i h1 h;cases i with
 |negSucc _=>injection h
 |ofNat j=>
  replace h:Bool.rec (motive:=fun U=>Option Nat) none (some j) (Nat.blt j (aA l))=some k:=h;cases q:Nat.blt j (aA l) with
  |false=>rw[q] at h;injection h
  |true=>
   rw[q] at h;(apply j1 h;clear h;rintro rfl);rw[b7] at q;exact⟨gb h1,df q⟩
theorem wG{o q:am}{m k:Nat}(h1:(o.sub q).val ε=(k:Int))(h2:q.val ε=(m:Int)):o.val ε=((m+k:Nat):Int):=by
 rw[np,h2] at h1;lia
theorem QR(he:ε.Ok):∀ {o:am},cG ε s→tY s o=some c→∃ k:Nat,o.val ε=(k:Int)∧(s.val ε)[k]?=some c:=by
 induction s with
 |nil=>intro o _ h;injection h
 |cons p r ih=>
  intro o hs h;replace h:E9 p o (tY r (o.sub p.len))=some c:=h;have go:tY r (o.sub p.len)=some c→∃ k:Nat,o.val ε=(k:Int)∧(p.val ε++SS.val ε r)[k]?=some c:=fun h=>by
   apply ah (ih hs.tl h);intro k h1 h2;exact⟨(p.val ε).length+k,wG h1 (zQ he hs),by rw[List.getElem?_append_right (Nat.le_add_right ..),Nat.add_sub_cancel_left];exact h2⟩
  induction p using Pc.casesOn with
  |lit l=>
   replace h:Option.rec (motive:=fun U=>Option Nat) (tY r (o.sub (Pc.lit l).len)) (fun k=>ak l k) (kz o l)=some c:=h;cases q:kz o l with
   |none=>rw[q] at h;exact go h
   |some k=>
    rw[q] at h;apply aN (AF (ε:=ε) q);intro h1 h2;replace h:ak l k=some c:=h;rw[dH] at h;exact⟨k,h1,(List.getElem?_append_left h2).trans h⟩
  |var i=>exact go h
  |rep _ n=>exact go h
theorem u4(h:iS o=true):o.val ε=0:=by
 replace h:Option.rec (motive:=fun U=>Bool) false (fun i=>lM i 0) o.conc=true:=h;cases q:o.conc with
 |none=>rw[q] at h;injection h
 |some i=>
  rw[q] at h;rw[gb q];cases i with
  |ofNat n=>exact congrArg Int.ofNat (bX h)
  |negSucc n=>injection h
theorem JF(he:ε.Ok):∀ {o:am},cG ε s→qf s o=some t→cG ε t∧∃ k:Nat,o.val ε=(k:Int)∧k≤(s.val ε).length∧t.val ε=(s.val ε).drop k:=by
 induction s with
 |nil=>
  intro o hs h;replace h:Bool.rec (motive:=fun U=>Option SS) none (some []) (iS o)=some t:=h;cases q:iS o with
  |false=>rw[q] at h;injection h
  |true=>rw[q] at h;(apply j1 h;clear h;rintro rfl);exact⟨hs,0,u4 q,Nat.le_refl _,rfl⟩
 |cons p r ih=>
  intro o hs h;replace h:Bool.rec (motive:=fun U=>Option SS) (BQ p r o (qf r (o.sub p.len))) (some (p::r)) (iS o)=some t:=h;cases z:iS o with
  |true=>rw[z] at h;(apply j1 h;clear h;rintro rfl);exact⟨hs,0,u4 z,Nat.zero_le _,rfl⟩
  |false=>
   rw[z] at h;replace h:BQ p r o (qf r (o.sub p.len))=some t:=h;have go:qf r (o.sub p.len)=some t→cG ε t∧∃ k:Nat,o.val ε=(k:Int)∧k≤(p.val ε++SS.val ε r).length∧t.val ε=(p.val ε++SS.val ε r).drop k:=fun h=>by
    apply aN (ih hs.tl h);clear h;intro h0 h;apply dh h;intro k h1 h2 h3;exact⟨h0,(p.val ε).length+k,wG h1 (zQ he hs),by rw[ax];exact Nat.add_le_add_left h2 _,h3.trans (List.drop_length_add_append _).symm⟩
   induction p using Pc.casesOn with
   |lit l=>
    replace h:Option.rec (motive:=fun U=>Option SS) (qf r (o.sub (Pc.lit l).len)) (fun k=>some (.lit (bk k l)::r)) (kz o l)=some t:=h;cases q:kz o l with
    |none=>rw[q] at h;exact go h
    |some k=>
     rw[q] at h;(apply j1 h;clear h;rintro rfl);apply aN (AF (ε:=ε) q);intro h1 h2;refine⟨fun x hx=>(bU hx).elim (fun e=>by rw[e];trivial) fun hx=>hs x (.tail _ hx),k,h1,?_,?_⟩
     ·show k≤(l++SS.val ε r).length;rw[ax];exact Nat.le_trans (Nat.le_of_lt h2) (Nat.le_add_right ..)
     ·show bk k l++SS.val ε r=(l++SS.val ε r).drop k
      rw[uh,List.drop_append_of_le_length (Nat.le_of_lt h2)]
   |var i=>exact go h
   |rep _ n=>exact go h
theorem Rh(he:ε.Ok):∀ {o:am} {t:SS},cG ε s→pC s o=some t→cG ε t∧∃ k:Nat,o.val ε=(k:Int)∧k≤(s.val ε).length∧t.val ε=(s.val ε).take k:=by
 induction s with
 |nil=>
  intro o t hs h;replace h:Bool.rec (motive:=fun U=>Option SS) none (some []) (iS o)=some t:=h;cases q:iS o with
  |false=>rw[q] at h;injection h
  |true=>rw[q] at h;(apply j1 h;clear h;rintro rfl);exact⟨hs,0,u4 q,Nat.le_refl _,rfl⟩
 |cons p r ih=>
  intro o t hs h;replace h:Bool.rec (motive:=fun U=>Option SS) (yN p o (pC r (o.sub p.len))) (some []) (iS o)=some t:=h;cases z:iS o with
  |true=>rw[z] at h;(apply j1 h;clear h;rintro rfl);exact⟨fun U h=>absurd h List.not_mem_nil,0,u4 z,Nat.zero_le _,rfl⟩
  |false=>
   rw[z] at h;replace h:yN p o (pC r (o.sub p.len))=some t:=h;have go:(ob (pC r (o.sub p.len)) fun t=>some (p::t))=some t→cG ε t∧∃ k:Nat,o.val ε=(k:Int)∧k≤(p.val ε++SS.val ε r).length∧t.val ε=(p.val ε++SS.val ε r).take k:=fun h=>by
    apply aI h;clear h;intro u h0 h;(apply j1 h;clear h;rintro rfl);apply aN (ih hs.tl h0);clear h0;intro h0 h;apply dh h;intro k h1 h2 h3;exact⟨fun x hx=>(bU hx).elim (fun e=>e▸hs p (.head _)) fun hx=>h0 x hx,(p.val ε).length+k,wG h1 (zQ he hs),by rw[ax];exact Nat.add_le_add_left h2 _,(congrArg (p.val ε++·) h3).trans (List.take_length_add_append _).symm⟩
   induction p using Pc.casesOn with
   |lit l=>
    replace h:Option.rec (motive:=fun U=>Option SS) (ob (pC r (o.sub (Pc.lit l).len)) fun t=>some (.lit l::t)) (fun k=>some [.lit (aP k l)]) (kz o l)=some t:=h;cases q:kz o l with
    |none=>rw[q] at h;exact go h
    |some k=>
     rw[q] at h;(apply j1 h;clear h;rintro rfl);apply aN (AF (ε:=ε) q);intro h1 h2;refine⟨fun x hx=>by rw[cH hx];trivial,k,h1,?_,?_⟩
     ·show k≤(l++SS.val ε r).length;rw[ax];exact Nat.le_trans (Nat.le_of_lt h2) (Nat.le_add_right ..)
     ·show aP k l++[]=(l++SS.val ε r).take k
      rw[mB,af,List.take_append_of_le_length (Nat.le_of_lt h2)]
   |var i=>exact go h
   |rep _ n=>exact go h
theorem BC(he:ε.Ok)(hs:cG ε s):(0≤(mU s n).val ε→(mU s n).val ε=n.val ε∨(n.val ε<0∧(mU s n).val ε=((s.val ε).length:Int)+n.val ε)):=by
 intro h;have e:mU s n=Option.rec (motive:=fun U=>am) n (fun i=>match i with|.ofNat _=>n|.negSucc _=>s.len.add n) n.conc:=rfl;cases q:n.conc with
 |none=>rw[q] at e;rw[e];exact .inl rfl
 |some i=>
  rw[q] at e;cases i with
  |ofNat k=>rw[e];exact .inl rfl
  |negSucc k=>rw[e];right;show _∧(s.len.add n).val ε=_;rw[gQ,jn he hs,gb q];exact⟨Int.negSucc_lt_zero k,rfl⟩
end
end
end
section
section
structure ar where
 prog:Program
 w:World
 K:Frag
 p:Program
 loose:List Str
 mg:Str→Option Value
 mb:Str→Option Value
 ε:Ev
section
variable (Γ:ar)(imm:List (Addr×Obj))(ρ:List Addr)
noncomputable def Kn(a:Addr)(o:Obj):Prop:=(a,o)∈imm∨Γ.K.lookup a=some o
noncomputable def aG(l:List Nat):Str:=⟨l.toArray⟩
structure iH (C:Addr):Prop where
 ga:plainGet Γ.K C ""=true
 hd:hasDictIn Γ.K C=true
 sa:findIn Γ.K (.ref C) "__setattr__"=some (some (.builtin "object.__setattr__"))
 po:plainOver Γ.K C=true
 tb:findIn Γ.K (.ref C) "__bool__"=some none
 tl:findIn Γ.K (.ref C) "__len__"=some none
noncomputable def y0(n:Nat)(t u v:Tok):Obj:={cls:=.type "range",data:=.fields #[.int 0 t,.int (n:Int) u,.int 1 v]}
mutual
inductive VR:Value→AV→Prop
 |none:VR .none .none
 |bool (b:Bool):VR (.bool b) (.bool b)
 |int {l:am} {i:Int} {t:Tok}:i=l.val Γ.ε→VR (.int i t) (.int l)
 |str {s:SS} {x:Str} {t:Tok}:x=aG (s.val Γ.ε)→cG Γ.ε s→(s.val Γ.ε).length≤16777216→VR (.str x t) (.str s)
 |cell {a:Addr} {k:Nat}:ak ρ k=some a→VR (.ref a) (.cell k)
 |tup {a:Addr} {vs:List Value} {xs:List AV} {n:Nat}:Kn Γ imm a {cls:=.type "tuple",data:=.seq vs.toArray n}→ao vs xs→VR (.ref a) (.tup xs)
 |obj {a C d:Addr} {es:List DictEntry} {n:Nat} {fs:List (Str×AV)}:(a,instObj C d)∈imm→(d,dictOf es n)∈imm→be es fs→(∀ p∈fs,findIn Γ.K (.ref C) p.1=some none)→iH Γ C→VR (.ref a) (.obj C fs)
 |dict {a:Addr} {es:List DictEntry} {n:Nat} {ds:List (List Nat×AV)}:Kn Γ imm a (dictOf es n)→(KeysLit Γ.ε.P es∧(a == sysModules)=false)→DR es ds→VR (.ref a) (.dict ds)
 |cls {C:Addr}:VR (.ref C) (.cls C)
 |fn {f:Addr}:VR (.ref f) (.fn f)
 |bi {k:BF}:VR k.val (.bi k)
 |meth {a f:Addr} {v:Value} {x:AV}:(a,methodObj (.ref f) v)∈imm→VR v x→VR (.ref a) (.meth f x)
 |any {v:Value} {i:Nat}:Γ.ε.ov i=v→VR v (.any i)
 |rng {a:Addr} {n:Nat} {t u v:Tok}:(a,y0 n t u v)∈imm→n≤1000→VR (.ref a) (.rng n)
inductive ao:List Value→List AV→Prop
 |nil:ao [] []
 |cons {v:Value} {x:AV} {vs:List Value} {xs:List AV}:VR v x→ao vs xs→ao (v::vs) (x::xs)
inductive be:List DictEntry→List (Str×AV)→Prop
 |nil:be [] []
 |cons {h:Int} {t:Tok} {n:Str} {v:Value} {x:AV} {es:List DictEntry} {fs:List (Str×AV)}:VR v x→be es fs→be (⟨h,.str n t,v⟩::es) ((n,x)::fs)
inductive DR:List DictEntry→List (List Nat×AV)→Prop
 |nil:DR [] []
 |cons {h:Int} {t:Tok} {l:List Nat} {v:Value} {x:AV} {es:List DictEntry} {ds:List (List Nat×AV)}:VR v x→DR es ds→DR (⟨h,.str (aG l) t,v⟩::es) ((l,x)::ds)
end
end
section
variable {Γ:ar}{imm imm':List (Addr×Obj)}{ρ ρ':List Addr}
set_option smartUnfolding false in
theorem uI(o:lJ n (x::r)=true):fH n x=true∧lJ n r=true:=by
 replace o:Bool.rec (motive:=fun U=>Bool) false (lJ n r) (fH n x)=true:=o;cases q:fH n x with
 |true=>rw[q] at o;exact⟨rfl,o⟩
 |false=>rw[q] at o;injection o
set_option smartUnfolding false in
theorem xm(o:ko n ((x,y)::r)=true):fH n y=true∧ko n r=true:=by
 replace o:Bool.rec (motive:=fun U=>Bool) false (ko n r) (fH n y)=true:=o;cases q:fH n y with
 |true=>rw[q] at o;exact⟨rfl,o⟩
 |false=>rw[q] at o;injection o
set_option smartUnfolding false in
theorem Hj(o:qC n ((x,y)::r)=true):fH n y=true∧qC n r=true:=by
 replace o:Bool.rec (motive:=fun U=>Bool) false (qC n r) (fH n y)=true:=o;cases q:fH n y with
 |true=>rw[q] at o;exact⟨rfl,o⟩
 |false=>rw[q] at o;injection o
noncomputable def VI(Γ:ar)(imm:List (Addr×Obj))(ρ:List Addr)(v:Value)(x:AV):Prop:=match x with
 |.none=>v=.none
 |.bool b=>v=.bool b
 |.int l=>∃ t,v=.int (l.val Γ.ε) t
 |.str s=>∃ t,v=.str (aG (s.val Γ.ε)) t∧cG Γ.ε s∧(s.val Γ.ε).length≤16777216
 |.cell k=>∃ a,v=.ref a∧ak ρ k=some a
 |.tup xs=>∃ a vs n,v=.ref a∧Kn Γ imm a {cls:=.type "tuple",data:=.seq vs.toArray n}∧ao Γ imm ρ vs xs
 |.obj C fs=>∃ a d es n,v=.ref a∧(a,instObj C d)∈imm∧(d,dictOf es n)∈imm∧be Γ imm ρ es fs∧(∀ p∈fs,findIn Γ.K (.ref C) p.1=some Option.none)∧iH Γ C
 |.dict ds=>∃ a es n,v=.ref a∧Kn Γ imm a (dictOf es n)∧(KeysLit Γ.ε.P es∧(a == sysModules)=false)∧DR Γ imm ρ es ds
 |.cls C=>v=.ref C
 |.fn f=>v=.ref f
 |.bi k=>v=k.val
 |.meth f x=>∃ a w,v=.ref a∧(a,methodObj (.ref f) w)∈imm∧VR Γ imm ρ w x
 |.any i=>Γ.ε.ov i=v
 |.rng n=>∃ a t u v',v=.ref a∧(a,y0 n t u v')∈imm∧n≤1000
theorem VR.inv(h:VR Γ imm ρ v x):VI Γ imm ρ v x :=
 VR.casesOn (motive_1:=fun v x U=>VI Γ imm ρ v x) h rfl (fun U=>rfl) (fun e=>⟨_,congrArg (Value.int · _) e⟩) (fun e o k=>⟨_,congrArg (Value.str · _) e,o,k⟩) (fun e=>⟨_,rfl,e⟩) (fun a b=>⟨_,_,_,rfl,a,b⟩)
  (fun a b c d e=>⟨_,_,_,_,rfl,a,b,c,d,e⟩) (fun a b c=>⟨_,_,_,rfl,a,b,c⟩) rfl rfl rfl (fun a b=>⟨_,_,rfl,a,b⟩) id (fun a b=>⟨_,_,_,_,rfl,a,b⟩)
noncomputable def DM(Γ:ar)(imm:List (Addr×Obj))(ρ:List Addr)(v:List Value)(x:List AV):Prop:=match x with
 |[]=>v=[]
 |x::r=>∃ a t,v=a::t∧VR Γ imm ρ a x∧ao Γ imm ρ t r
theorem ao.inv(h:ao Γ imm ρ v x):DM Γ imm ρ v x:=ao.casesOn (motive_2:=fun v x U=>DM Γ imm ρ v x) h rfl fun a b=>⟨_,_,rfl,a,b⟩
theorem ao.nil_inv(h:ao Γ imm ρ v []):v=[]:=h.inv
theorem ao.cons_inv(h:ao Γ imm ρ v (x::r)):∃ a t,v=a::t∧VR Γ imm ρ a x∧ao Γ imm ρ t r:=h.inv
noncomputable def Gn(Γ:ar)(imm:List (Addr×Obj))(ρ:List Addr)(v:List DictEntry)(x:List (Str×AV)):Prop:=match x with
 |[]=>v=[]
 |x::r=>∃ k t a s,v=⟨k,.str x.1 t,a⟩::s∧VR Γ imm ρ a x.2∧be Γ imm ρ s r
theorem be.inv(h:be Γ imm ρ v x):Gn Γ imm ρ v x:=be.casesOn (motive_3:=fun v x U=>Gn Γ imm ρ v x) h rfl fun a b=>⟨_,_,_,_,rfl,a,b⟩
noncomputable def HA(Γ:ar)(imm:List (Addr×Obj))(ρ:List Addr)(v:List DictEntry)(x:List (List Nat×AV)):Prop:=match x with
 |[]=>v=[]
 |x::r=>∃ k t a s,v=⟨k,.str (aG x.1) t,a⟩::s∧VR Γ imm ρ a x.2∧DR Γ imm ρ s r
theorem DR.inv(h:DR Γ imm ρ v x):HA Γ imm ρ v x:=DR.casesOn (motive_4:=fun v x U=>HA Γ imm ρ v x) h rfl fun a b=>⟨_,_,_,_,rfl,a,b⟩
theorem ao.ind{motive:∀ (vs:List Value) (xs:List AV),ao Γ imm ρ vs xs→Prop}(nil:motive [] [] .nil)(cons:∀ {v:Value} {x:AV} {vs:List Value} {xs:List AV} (a:VR Γ imm ρ v x) (g:ao Γ imm ρ vs xs),motive vs xs g→motive (v::vs) (x::xs) (.cons a g))(h:ao Γ imm ρ vs xs):motive vs xs h:=by
 induction xs generalizing vs with
 |nil=>obtain rfl:=h.inv;exact nil
 |cons y r ih=>
  apply ir h.inv;intro a t e0 h1 h2;subst e0;exact cons h1 h2 (ih h2)
theorem be.ind{motive:∀ (es:List DictEntry) (fs:List (Str×AV)),be Γ imm ρ es fs→Prop}(nil:motive [] [] .nil)(cons:∀ {h:Int} {t:Tok} {n:Str} {v:Value} {x:AV} {es:List DictEntry} {fs:List (Str×AV)} (a:VR Γ imm ρ v x) (g:be Γ imm ρ es fs),motive es fs g→motive (⟨h,.str n t,v⟩::es) ((n,x)::fs) (.cons a g))(h:be Γ imm ρ es fs):motive es fs h:=by
 induction fs generalizing es with
 |nil=>obtain rfl:=h.inv;exact nil
 |cons y r ih=>
  apply ow h.inv;intro _ _ a t e0 h1 h2;subst e0;exact cons h1 h2 (ih h2)
theorem DR.ind{motive:∀ (es:List DictEntry) (ds:List (List Nat×AV)),DR Γ imm ρ es ds→Prop}(nil:motive [] [] .nil)(cons:∀ {h:Int} {t:Tok} {l:List Nat} {v:Value} {x:AV} {es:List DictEntry} {ds:List (List Nat×AV)} (a:VR Γ imm ρ v x) (g:DR Γ imm ρ es ds),motive es ds g→motive (⟨h,.str (aG l) t,v⟩::es) ((l,x)::ds) (.cons a g))(h:DR Γ imm ρ es ds):motive es ds h:=by
 induction ds generalizing es with
 |nil=>obtain rfl:=h.inv;exact nil
 |cons y r ih=>
  apply ow h.inv;intro _ _ a t e0 h1 h2;subst e0;exact cons h1 h2 (ih h2)
noncomputable def da(o:Obj):Bool:=match o.cls with
 |.type n=>n == "enumerate" ||(n == "list_iterator" ||n == "str_iterator" ||n == "str_ascii_iterator" ||n == "range_iterator")
 |_=>false
theorem Kn.all(hi:∀ p∈imm,da p.2=false→p∈imm')(ho:da o=false)(h:Kn Γ imm a o):Kn Γ imm' a o:=h.imp (fun q=>hi _ q ho) id
theorem te(n:String)(d:Data)(h:(n == "enumerate" ||(n == "list_iterator" ||n == "str_iterator" ||n == "str_ascii_iterator" ||n == "range_iterator"))=false):da {cls:=.type n,data:=d}=false:=h
section
variable {n:Nat}{q:Bool}(hi:∀ p∈imm,da p.2=false→p∈imm')(hr:∀ k a,(q=true→k<n)→ak ρ k=some a→ak ρ' k=some a)
include hi hr
theorem VR.all(o:q=true→fH n x=true)(h:VR Γ imm ρ v x):VR Γ imm' ρ' v x :=
 VR.rec (motive_1:=fun v x U=>(q=true→fH n x=true)→VR Γ imm' ρ' v x) (motive_2:=fun v x U=>(q=true→lJ n x=true)→ao Γ imm' ρ' v x) (motive_3:=fun v x U=>(q=true→ko n x=true)→be Γ imm' ρ' v x) (motive_4:=fun v x U=>(q=true→qC n x=true)→DR Γ imm' ρ' v x)
  (fun U=>.none) (fun b U=>.bool b) (fun h U=>.int h) (fun h g k U=>.str h g k) (fun h o=>.cell (hr _ _ (fun e=>df (o e)) h)) (fun h U g o=>.tup (h.all hi (te _ _ (by decide))) (g o))
  (fun a b U d e c o=>.obj (hi _ a rfl) (hi _ b (te _ _ (by decide))) (c o) d e) (fun h k U g o=>.dict (h.all hi (te _ _ (by decide))) k (g o))
  (fun U=>.cls) (fun U=>.fn) (fun U=>.bi) (fun h U g o=>.meth (hi _ h (te _ _ (by decide))) (g o)) (fun h U=>.any h) (fun h k U=>.rng (hi _ h (te _ _ (by decide))) k)
  (fun U=>.nil) (fun U U a b o=>.cons (a fun e=>(uI (o e)).1) (b fun e=>(uI (o e)).2))
  (fun U=>.nil) (fun U U a b o=>.cons (a fun e=>(xm (o e)).1) (b fun e=>(xm (o e)).2))
  (fun U=>.nil) (fun U U a b o=>.cons (a fun e=>(Hj (o e)).1) (b fun e=>(Hj (o e)).2)) h o
theorem ao.all(o:q=true→lJ n x=true)(h:ao Γ imm ρ v x):ao Γ imm' ρ' v x:=by
 revert o;induction h using ao.ind with
 |nil=>exact fun U=>.nil
 |cons a _ ih=>exact fun o=>.cons (a.all hi hr fun e=>(uI (o e)).1) (ih fun e=>(uI (o e)).2)
theorem be.all(o:q=true→ko n x=true)(h:be Γ imm ρ v x):be Γ imm' ρ' v x:=by
 revert o;induction h using be.ind with
 |nil=>exact fun U=>.nil
 |cons a _ ih=>exact fun o=>.cons (a.all hi hr fun e=>(xm (o e)).1) (ih fun e=>(xm (o e)).2)
end
section
variable (hi:∀ p∈imm,p∈imm')(hr:∀ k a,ak ρ k=some a→ak ρ' k=some a)
include hi hr
theorem VR.mono:VR Γ imm ρ v x→VR Γ imm' ρ' v x:=VR.all (n:=0) (q:=false) (fun p h U=>hi p h) (fun k a U=>hr k a) nofun
theorem ao.mono:ao Γ imm ρ v x→ao Γ imm' ρ' v x:=ao.all (n:=0) (q:=false) (fun p h U=>hi p h) (fun k a U=>hr k a) nofun
theorem be.mono:be Γ imm ρ v x→be Γ imm' ρ' v x:=be.all (n:=0) (q:=false) (fun p h U=>hi p h) (fun k a U=>hr k a) nofun
end
section
variable {n:Nat}(hr:∀ k a,k<n→ak ρ k=some a→ak ρ' k=some a)
include hr
theorem VR.few(o:fH n x=true):VR Γ imm ρ v x→VR Γ imm ρ' v x:=VR.all (q:=true) (fun p h U=>h) (fun k a h=>hr k a (h rfl)) fun U=>o
theorem ao.few(o:lJ n x=true):ao Γ imm ρ v x→ao Γ imm ρ' v x:=ao.all (q:=true) (fun p h U=>h) (fun k a h=>hr k a (h rfl)) fun U=>o
theorem be.few(o:ko n x=true):be Γ imm ρ v x→be Γ imm ρ' v x:=be.all (q:=true) (fun p h U=>h) (fun k a h=>hr k a (h rfl)) fun U=>o
end
noncomputable def CC.addr:CC→Addr
 |.list a _ _=>a
 |.inst a _ _ _ _=>a
noncomputable def CC.objs:CC→List (Addr×Obj)
 |.list a vs n=>[(a,listOf vs.toArray n)]
 |.inst a C d es n=>[(a,instObj C d),(d,dictOf es n)]
noncomputable def aL(cs:List CC):List (Addr×Obj):=cs.flatMap CC.objs
noncomputable def ae(cs:List CC):List Addr:=cs.map CC.addr
theorem CC.same{c:CC}(h:c.addr=a):c.addr=a:=h
inductive jg (ε:Ev):List Value→List Nat→Prop
 |nil:jg ε [] []
 |snoc {vs:List Value} {l r:List Nat} {t:Tok}:jg ε vs l→jg ε (vs++[.str (aG r) t]) (l++r)
inductive CR (Γ:ar) (imm:List (Addr×Obj)) (ρ:List Addr):CC→aw→Prop
 |list {a:Addr} {vs:List Value} {n:Nat} {xs:List AV}:ao Γ imm ρ vs xs→xs.length≤200000→CR Γ imm ρ (.list a vs n) (.list xs)
 |rows {a:Addr} {vs:List Value} {n:Nat} {q:am} {t:SS}:jg Γ.ε vs (t.val Γ.ε)→cG Γ.ε t→(vs.length:Int)≤q.val Γ.ε→CR Γ imm ρ (.list a vs n) (.rows t q)
 |inst {a C d:Addr} {es:List DictEntry} {n:Nat} {fs:List (Str×AV)}:be Γ imm ρ es fs→(∀ p∈fs,findIn Γ.K (.ref C) p.1=some none)→iH Γ C→CR Γ imm ρ (.inst a C d es n) (.inst C fs)
 |any {c:CC} {i:Nat}:Γ.ε.cv i=c→CR Γ imm ρ c (.any i)
inductive bu (Γ:ar) (imm:List (Addr×Obj)) (ρ:List Addr):List CC→List aw→Prop
 |nil:bu Γ imm ρ [] []
 |cons {c:CC} {x:aw} {cs:List CC} {xs:List aw}:CR Γ imm ρ c x→bu Γ imm ρ cs xs→bu Γ imm ρ (c::cs) (x::xs)
theorem CR.mono(hi:∀ p∈imm,p∈imm')(hr:∀ k a,ak ρ k=some a→ak ρ' k=some a)(h:CR Γ imm ρ c x):CR Γ imm' ρ' c x :=
 CR.casesOn (motive:=fun c x U=>CR Γ imm' ρ' c x) h (fun h k=>.list (h.mono hi hr) k) (fun h g k=>.rows h g k) (fun h g k=>.inst (h.mono hi hr) g k) .any
theorem VR.cell_inv(h:VR Γ imm ρ v (.cell k)):∃ a,v=.ref a∧ak ρ k=some a:=h.inv
theorem VR.obj_inv(h:VR Γ imm ρ v (.obj C fs)):∃ a d es n,v=.ref a∧(a,instObj C d)∈imm∧(d,dictOf es n)∈imm∧be Γ imm ρ es fs∧(∀ p∈fs,findIn Γ.K (.ref C) p.1=some Option.none)∧iH Γ C:=h.inv
theorem VR.tup_inv(h:VR Γ imm ρ v (.tup xs)):∃ a vs n,v=.ref a∧Kn Γ imm a {cls:=.type "tuple",data:=.seq vs.toArray n}∧ao Γ imm ρ vs xs:=h.inv
noncomputable def Ek(Γ:ar)(imm:List (Addr×Obj))(ρ:List Addr)(c:CC)(x:aw):Prop:=match x with
 |.list xs=>∃ a vs n,c=.list a vs n∧ao Γ imm ρ vs xs∧xs.length≤200000
 |.rows t q=>∃ a vs n,c=.list a vs n∧jg Γ.ε vs (t.val Γ.ε)∧cG Γ.ε t∧(vs.length:Int)≤q.val Γ.ε
 |.inst C fs=>∃ a d es n,c=.inst a C d es n∧be Γ imm ρ es fs∧(∀ p∈fs,findIn Γ.K (.ref C) p.1=some none)∧iH Γ C
 |.any i=>Γ.ε.cv i=c
theorem CR.inv(h:CR Γ imm ρ c x):Ek Γ imm ρ c x:=CR.casesOn (motive:=fun c x U=>Ek Γ imm ρ c x) h (fun a b=>⟨_,_,_,rfl,a,b⟩) (fun a b d=>⟨_,_,_,rfl,a,b,d⟩) (fun a b c=>⟨_,_,_,_,rfl,a,b,c⟩) id
theorem CR.list_inv(h:CR Γ imm ρ c (.list xs)):∃ a vs n,c=.list a vs n∧ao Γ imm ρ vs xs∧xs.length≤200000:=h.inv
theorem CR.rows_inv(h:CR Γ imm ρ c (.rows t q)):∃ a vs n,c=.list a vs n∧jg Γ.ε vs (t.val Γ.ε)∧cG Γ.ε t∧(vs.length:Int)≤q.val Γ.ε:=h.inv
theorem CR.inst_inv(h:CR Γ imm ρ c (.inst C fs)):∃ a d es n,c=.inst a C d es n∧be Γ imm ρ es fs∧(∀ p∈fs,findIn Γ.K (.ref C) p.1=some none)∧iH Γ C:=h.inv
theorem bu.mono(hi:∀ p∈imm,p∈imm')(hr:∀ k a,ak ρ k=some a→ak ρ' k=some a)(h:bu Γ imm ρ c x):bu Γ imm' ρ' c x:=by
 induction h with
 |nil=>exact .nil
 |cons h _ ih=>exact .cons (h.mono hi hr) ih
theorem bu.len(h:bu Γ imm ρ c x):c.length=x.length:=by
 induction h with
 |nil=>rfl
 |cons _ _ ih=>exact congrArg (·+1) ih
theorem bu.at(h:bu Γ imm ρ c x)(e:ak x k=some y):∃ d pre post,c=pre++d::post∧pre.length=k∧CR Γ imm ρ d y:=by
 induction h generalizing k with
 |nil=>injection e
 |cons h g ih=>
  cases k with
  |zero=>exact⟨_,[],_,rfl,rfl,osI e▸h⟩
  |succ k=>
   apply eZ (ih (k:=k) e);intro d pre post e1 l r;exact⟨d,_::pre,post,congrArg _ e1,congrArg (·+1) l,r⟩
noncomputable def IH(Γ:ar)(imm:List (Addr×Obj))(ρ:List Addr)(c:List CC)(x:List aw):Prop:=match c with
 |[]=>x=[]
 |d::cs=>∃ y r,x=y::r∧CR Γ imm ρ d y∧bu Γ imm ρ cs r
theorem bu.inv(h:bu Γ imm ρ c x):IH Γ imm ρ c x:=bu.casesOn (motive:=fun c x U=>IH Γ imm ρ c x) h rfl fun a b=>⟨_,_,rfl,a,b⟩
theorem bu.set(h:bu Γ imm ρ (pre++d::post) x)(g:CR Γ imm ρ d' y):bu Γ imm ρ (pre++d'::post) (dS x pre.length y):=by
 induction pre generalizing x with
 |nil=>
  apply ir h.inv;intro _ _ e0 _ k;subst e0;exact .cons g k
 |cons p pre ih=>
  apply ir h.inv;intro _ _ e0 a k;subst e0;exact .cons a (ih k)
theorem bu.snoc(h:bu Γ imm ρ c x)(g:CR Γ imm ρ d y):bu Γ imm ρ (c++[d]) (x++[y]):=by
 induction h with
 |nil=>exact .cons g .nil
 |cons k _ ih=>exact .cons k ih
theorem A0{α:Type}{l:List α}{k:Nat}{a:α}(h:ak l k=some a):k<l.length:=by
 rw[dH] at h;exact(List.getElem?_eq_some_iff.mp h).1
theorem Bg{α:Type}{l r:List α}{k:Nat}{a:α}(h:ak l k=some a):ak (l++r) k=some a:=by
 have:=A0 h;rw[dH] at h ⊢;rw[List.getElem?_append_left this];exact h
theorem ue(pre post:List CC)(d d':CC)(h:d'.addr=d.addr):ae (pre++d'::post)=ae (pre++d::post):=by simp [ae,h]
theorem R8(pre post:List CC)(d:CC):ak (ae (pre++d::post)) pre.length=some d.addr:=by
 rw[dH];simp [ae]
theorem ny(pre post:List CC)(d:CC):aL (pre++d::post)=aL pre++(d.objs++aL post):=by simp [aL]
structure aj (Γ:ar) (h₀:Heap) (L:Addr) (h:Heap) (m:Str→Option Value) (ls:List (Str×AV)) (σ:St) (imm:List (Addr×Obj)) (cs:List CC):Prop where
 F:Fr h₀ L h m
 N:News h₀ L h (imm++aL cs)
 nd:((imm++aL cs).map Prod.fst).Nodup
 C:bu Γ imm (ae cs) cs σ
 l:∀ x v,lk x ls=some v→∃ val,m x=some val∧VR Γ imm (ae cs) val v
structure aH (imm:List (Addr×Obj)) (cs:List CC) (imm':List (Addr×Obj)) (cs':List CC):Prop where
 i:∀ p∈imm,p∈imm'
 r:∀ k a,ak (ae cs) k=some a→ak (ae cs') k=some a
theorem aH.refl(imm:List (Addr×Obj))(cs:List CC):aH imm cs imm cs:=⟨fun U h=>h,fun U U h=>h⟩
theorem aH.trans(a:aH i1 c1 i2 c2)(b:aH i2 c2 i3 c3):aH i1 c1 i3 c3:=⟨fun p h=>b.i p (a.i p h),fun k x h=>b.r k x (a.r k x h)⟩
theorem VR.ext(e:aH i1 c1 i2 c2)(h:VR Γ i1 (ae c1) v x):VR Γ i2 (ae c2) v x:=h.mono e.i e.r
theorem ao.ext(e:aH i1 c1 i2 c2)(h:ao Γ i1 (ae c1) v x):ao Γ i2 (ae c2) v x:=h.mono e.i e.r
variable {h₀ h:Heap}{L:Addr}{m:Str→Option Value}{ls:List (Str×AV)}{σ:St}{cs:List CC}
theorem aj.lt(R:aj Γ h₀ L h m ls σ imm cs)(ha:a∈(imm++aL cs).map Prod.fst):a<h.objs.size:=by
 apply ah (dm ha);intro p hp e0;subst e0;exact Heap.lt_size (R.N p hp).1
theorem aj.newI(R:aj Γ h₀ L h m ls σ imm cs)(o:Obj)(hf:o.isFreed=false):aj Γ h₀ L (h.push o) m ls σ ((h.objs.size,o)::imm) cs:=by
 have e:∀ p∈imm,p∈(h.objs.size,o)::imm:=fun p hp=>.tail _ hp;refine⟨R.F.push o,R.N.push R.F o (hfree:=hf),?_,R.C.mono e fun U U h=>h,fun x v hx=>?_⟩
 ·show (h.objs.size::(imm++aL cs).map Prod.fst).Nodup
  exact List.nodup_cons.mpr ⟨fun q=>Nat.lt_irrefl _ (R.lt q),R.nd⟩
 ·apply ah (R.l x v hx);intro val a b
  exact⟨val,a,b.mono e fun U U h=>h⟩
theorem aj.extI(R:aj Γ h₀ L h m ls σ imm cs)(o:Obj):aH imm cs ((h.objs.size,o)::imm) cs:=⟨fun U hp=>.tail _ hp,fun U U h=>h⟩
end
end
section
structure Cx where
 base:Heap
 h₀:Heap
 outer:List Env
 L:Addr
 a:Addr
 cn:Str
 cs:Scope
 cd:Value
 up:Option Addr
noncomputable def Cx.env(c:Cx):Env:=match c.up with
 |none=>envOf c.cn c.cs c.L c.a c.cd
 |some fl=>{scope:=c.cs,locals:=c.L,globals:=mainGlobals,cells:=[],qual:=c.cn++".<locals>.",func:=none,code:=c.cd,frame:=some fl,builtins:=builtinsNs}
noncomputable def Cx.fr(c:Cx):List Env:=match c.up with
 |none=>c.env::c.outer
 |some _=>c.outer
theorem Cx.parts(c:Cx):c.env.scope=c.cs∧c.env.locals=c.L∧c.env.globals=mainGlobals∧c.env.builtins=builtinsNs:=by
 unfold Cx.env;cases c.up<;>exact⟨rfl,rfl,rfl,rfl⟩
structure bp (Γ:ar) (c:Cx) (A:Around) (n:Nat):Prop where
 B:∃ A₀,Below A₀ c.base c.outer c.h₀
 X:Γ.K.In c.h₀
 T:TopRead Γ.p Γ.loose Γ.mg Γ.mb c.h₀
 k:c.cs.kind=.function
 fr:A.frames=some c.fr
 hd:A.handled=none
 dp:A.depth+n≤990
 un:A.units+4*n≤9800
structure cK (c:Cx) (ls:ac):Prop where
 sc:ls.sc=c.cs.names
 lo:∀ x v,lk x ls.v=some v→c.cs.names.lookup x=some .local
 nd:c.cs.names.lookup ("__debug__" : Str)=none
theorem fE{α:Type}(x y:Str)(v:α)(r:List (Str×α)):lk x ((y,v)::r)=if y=x then some v else lk x r:=by
 show Bool.rec (motive:=fun U=>Option α) (lk x r) (some v) (seq y x)=_;cases q:seq y x with
 |true=>rw[if_pos (hU.mp q)]
 |false=>rw[if_neg (Da q)]
theorem jm{α:Type}(x:Str):∀ l:List (Str×α),lk x l=l.lookup x:=by
 intro L0;induction L0 with
 |nil=>
  exact rfl
 |cons x0 r ih=>
  obtain⟨y,v⟩:=x0;rw[fE,List.lookup_cons,ih]
  by_cases e:y=x
  ·subst e;simp
  ·have h2:(x == y)=false:=by simp [Ne.symm e]
   rw[if_neg e,h2]
theorem Nv{α:Type}(x:Str)(v:α):put x v []=[(x,v)]:=rfl
theorem yA{α:Type}(x y:Str)(v u:α)(r:List (Str×α)):put x v ((y,u)::r)=if y=x then (y,v)::r else (y,u)::put x v r:=by
 show Bool.rec (motive:=fun U=>List (Str×α)) ((y,u)::put x v r) ((y,v)::r) (seq y x)=_;cases q:seq y x with
 |true=>rw[if_pos (hU.mp q)]
 |false=>rw[if_neg (Da q)]
theorem Fo{α:Type}(x y:Str)(v:α):∀ l:List (Str×α),lk y (put x v l)=if y=x then some v else lk y l:=by
 intro L0;induction L0 with
 |nil=>
  rw[Nv,fE]
  by_cases e:y=x
  ·rw[if_pos e,if_pos e.symm]
  ·rw[if_neg e,if_neg (Ne.symm e)]
 |cons x0 r ih=>
  obtain⟨z,u⟩:=x0;rw[yA,fE]
  by_cases q:z=x
  ·subst q
   rw[if_pos rfl,fE]
   by_cases e:y=z
   ·rw[if_pos e,if_pos e.symm]
   ·rw[if_neg e,if_neg (Ne.symm e),if_neg (Ne.symm e)]
  ·rw[if_neg q,fE,ih]
   by_cases e:z=y
   ·subst e;rw[if_pos rfl,if_pos rfl,if_neg q]
   ·rw[if_neg e,if_neg e]
section
variable {Γ:ar}
theorem sJ{M:Model}{A:Around}{α:Type}{x y:Sem α}{Q:α→Shared→Prop}{E:Value→Shared→Prop}{s:Shared}(h:x=y)(k:wpAny M A y Q E s):wpAny M A x Q E s:=h▸k
theorem IQ{M:Model}{A:Around}{α:Type}{t:Bool}{x y:Sem α}{Q:α→Shared→Prop}{E:Value→Shared→Prop}{s:Shared}(h1:t=true→wpAny M A x Q E s)(h2:t=false→wpAny M A y Q E s):wpAny M A (if t=true then x else y) Q E s:=by
 cases t with
 |true=>exact h1 rfl
 |false=>exact h2 rfl
noncomputable def dr{α:Type}(Γ:ar)(n:Nat)(t:Cx→Sem α)(ls:ac)(σ:St)(P:List (Addr×Obj)→List CC→α→Prop)(σ':St):Prop :=
 ∀ {c A s m imm cs} {Q:α→Shared→Prop} {E:Value→Shared→Prop},bp Γ c A n→cK c ls→aj Γ c.h₀ c.L s.heap m ls.v σ imm cs →
  (∀ h' tk imm' cs' x,aj Γ c.h₀ c.L h' m ls.v σ' imm' cs'→aH imm cs imm' cs'→P imm' cs' x→Q x {s with heap:=h',toks:=tk})→wpAny (model Γ.prog Γ.w) A (t c) Q E s
noncomputable abbrev EQ (Γ:ar) (v:AV):List (Addr×Obj)→List CC→Value→Prop:=fun imm cs val=>VR Γ imm (ae cs) val v
noncomputable abbrev qj (Γ:ar) (v:List AV):List (Addr×Obj)→List CC→List Value→Prop:=fun imm cs val=>ao Γ imm (ae cs) val v
noncomputable abbrev ij (b:Bool):List (Addr×Obj)→List CC→Bool→Prop:=fun U U x=>x=b
noncomputable abbrev b9 (Γ:ar) (n:Nat) (t:Cx→Sem Value) (ls:ac) (σ:St) (v:AV) (σ':St):Prop:=dr Γ n t ls σ (EQ Γ v) σ'
set_option tactic.hygienic true in
theorem Ux(h:xX x=some v):b9 Γ n (fun c=>eval (.Constant x q pos) c.env) ls σ v σ:=by
 intro c A s m imm cs Q E C l R k;cases x with
 |none=>(apply j1 h;clear h;rintro rfl);exact wpAny_pure (k s.heap s.toks imm cs .none R (aH.refl ..) .none)
 |bool b=>(apply j1 h;clear h;rintro rfl);exact wpAny_pure (k s.heap s.toks imm cs (.bool b) R (aH.refl ..) (.bool b))
 |int i=>(apply j1 h;clear h;rintro rfl);exact wpAny_Constant_int (k s.heap (s.toks+1) imm cs _ R (aH.refl ..) (.int (bV i).symm))
 |str x=>
  unfold xX at h;dsimp only at h
  split at h
  ·rename_i q
   (apply j1 h;clear h;rintro rfl);replace q:=df q;rw[b7] at q;exact wpAny_mkText (k s.heap (s.toks+1) imm cs _ R (aH.refl ..) (.str (by rw[db];rfl) (gG _) (by rw[db];lia)))
  ·injection h
 |_=>injection h
theorem B3(l:cK c ls)(h:c.cs.names.lookup x=some q):(x == ("__debug__" : Str))=false:=by
 cases e:x == ("__debug__" : Str) with
 |false=>rfl
 |true=>rw[beq_iff_eq.mp e,l.nd] at h;injection h
theorem Pu{ls:ac}(h:lk x ls.v=some v):b9 Γ n (fun c=>eval (.Name x pos) c.env) ls σ v σ:=by
 intro c A s m imm cs Q E C l R k;apply ah (R.l x v h);intro val a b;apply nq c.parts;intro p1 p2 p3 p4;exact wpAny_Name (wpAny_loadName_local (by rw[p1];exact C.k) (by unfold Env.kindOf;rw[p1];exact l.lo x v h) (by rw[p2];exact R.F.ns) a (k s.heap s.toks imm cs val R (aH.refl ..) b)) (B3 l (l.lo x v h))
structure ui (Γ:ar) (x:Str) (v:AV):Prop where
 h:∃ val,(∀ imm ρ,VR Γ imm ρ val v)∧(nsIn Γ.K mainGlobals x=some (some val)∨(nsIn Γ.K mainGlobals x=some none∧bootBuiltins x=some val∧x≠"__name__"))
theorem S8(h:uG x sc=true):sc.lookup x=some .globalImplicit:=by
 unfold uG at h;rw[←jm];cases e:lk x sc with
 |none=>rw[e] at h;injection h
 |some k=>rw[e] at h;cases k<;>first|rfl|injection h
theorem xL(h:qE x sc=true):sc.lookup x=some .local:=by
 unfold qE at h;rw[←jm];cases e:lk x sc with
 |none=>rw[e] at h;injection h
 |some k=>rw[e] at h;cases k<;>first|rfl|injection h
theorem Qi{ls:ac}(g:uG x ls.sc=true)(G:ui Γ x v):b9 Γ n (fun c=>eval (.Name x pos) c.env) ls σ v σ:=by
 intro c A s m imm cs Q E C l R k;have hk:c.cs.names.lookup x=some .globalImplicit:=by
  rw[l.sc] at g;exact S8 g
 apply nq c.parts;intro p1 p2 p3 p4;have k1:c.env.scope.kind=.function:=by rw[p1];exact C.k
 have k2:c.env.kindOf x=some .globalImplicit:=by unfold Env.kindOf;rw[p1];exact hk
 obtain⟨val,hv,e|⟨e,eb,en⟩⟩:=G.h
 ·exact Name_function_global k1 k2 (loadGlobal_global (by rw[p3];exact C.T.g.keeps R.F.keep) (mg_of C.X C.T.g e) (k s.heap s.toks imm cs val R (aH.refl ..) (hv ..))) (B3 l hk)
 ·exact Name_function_global k1 k2 (loadGlobal_builtin (by rw[p3];exact C.T.g.keeps R.F.keep) (mg_none_of C.X C.T.g e) (by rw[p4];exact C.T.b.keeps R.F.keep) ((C.T.builtins x en).trans eb) (k s.heap s.toks imm cs val R (aH.refl ..) (hv ..))) (B3 l hk)
noncomputable def gZ(Γ:ar)(t:Value→Value→Sem Value)(a b r:AV):Prop :=
 ∀ {A s Q E imm ρ va vb},VR Γ imm ρ va a→VR Γ imm ρ vb b→(∀ tk val,VR Γ imm ρ val r→Q val {s with toks:=tk})→wpAny (model Γ.prog Γ.w) A (t va vb) Q E s
theorem Sn
  (ha:b9 Γ n (fun c=>eval el c.env) ls σ a σ₁) (hb:b9 Γ n (fun c=>eval er c.env) ls σ₁ b σ₂) (ho:gZ Γ (binaryOp op) a b r) :
  b9 Γ n (fun c=>eval (.BinOp el op er pos) c.env) ls σ r σ₂:=by
 intro c A s m imm cs Q E C l R k;refine wpAny_BinOp (ha C l R fun h1 t1 i1 c1 va R1 x1 q1=>hb C l R1 fun h2 t2 i2 c2 vb R2 x2 q2=>?_);exact ho (q1.ext x2) q2 fun tk val q=>k h2 tk i2 c2 val R2 (x1.trans x2) q
end
end
section
theorem yx(a b:Nat):Nat.beq a b=decide (a=b):=by
 cases h:Nat.beq a b with
 |true=>exact(decide_eq_true (bX h)).symm
 |false=>exact(decide_eq_false (Nat.ne_of_beq_eq_false h)).symm
theorem Sd(a b:Nat):Nat.blt a b=decide (a<b):=by
 cases h:Nat.blt a b with
 |true=>exact(decide_eq_true (df h)).symm
 |false=>exact(decide_eq_false fun q=>by have:Nat.blt a b=true:=Nat.ble_eq_true_of_le q;rw[this] at h;injection h).symm
theorem Ee:∀ a b:List Nat,tX a b=decide (a<b)
 |[],[]=>(decide_eq_false (List.not_lt_nil [])).symm
 |[],b::y=>(decide_eq_true (List.nil_lt_cons b y)).symm
 |a::x,[]=>(decide_eq_false (List.not_lt_nil (a::x))).symm
 |a::x,b::y=>by
  have e:tX (a::x) (b::y)=(Nat.blt a b ||(Nat.beq a b&&tX x y)):=by
   show Bool.rec (motive:=fun U=>Bool) (Bool.rec (motive:=fun U=>Bool) false (tX x y) (Nat.beq a b)) true (Nat.blt a b)=_;cases Nat.blt a b<;>cases Nat.beq a b<;>rfl
  rw[e,Ee x y];rw[Sd,yx];simp only [List.cons_lt_cons_iff,Bool.decide_or,Bool.decide_and]
theorem Pf(c:Nat):∀ l:List Nat,aK c l=decide (c∈l):=by
 intro L0;induction L0 with
 |nil=>
  exact rfl
 |cons b r ih=>
  have e:aK c (b::r)=(Nat.beq c b ||aK c r):=by
   show Bool.rec (motive:=fun U=>Bool) (aK c r) true (Nat.beq c b)=_;cases Nat.beq c b<;>rfl
  rw[e,ih,yx];simp only [List.mem_cons,Bool.decide_or]
section
variable {Γ:ar}{β:Bd}
theorem gE(h:eG v=some l):v=.int l:=by induction v using AV.casesOn<;>(first|apply j1 h;rintro rfl|injection h);rfl
theorem ni(h:jw v=some l):v=.str l:=by induction v using AV.casesOn<;>(first|apply j1 h;rintro rfl|injection h);rfl
theorem kl(h:ib v=some l):v=.cell l:=by induction v using AV.casesOn<;>(first|apply j1 h;rintro rfl|injection h);rfl
theorem P7(h:HE v=some l):v=.dict l:=by induction v using AV.casesOn<;>(first|apply j1 h;rintro rfl|injection h);rfl
theorem Oy(h:Hl v=some l):v=.cls l:=by induction v using AV.casesOn<;>(first|apply j1 h;rintro rfl|injection h);rfl
theorem kd(h:iW v=some i):∃ l,v=.int l∧l.conc=some i:=by induction v using AV.casesOn<;>first|exact⟨_,rfl,h⟩|injection h
theorem nH(h:mf v=some l):∃ s,v=.str s∧s.conc=some l:=by induction v using AV.casesOn<;>first|exact⟨_,rfl,h⟩|injection h
theorem QM(h:tQ c=some xs):c=.list xs:=by cases c<;>(first|apply j1 h;rintro rfl|injection h);rfl
theorem OQ(h:zf c=some q):c=.inst q.1 q.2:=by cases c<;>(first|apply j1 h;rintro rfl|injection h);rfl
theorem g6(h:eq σ k=some xs):ak σ k=some (.list xs):=by
 obtain⟨c,h1,h2⟩:=Bj h;rw[h1,QM h2]
theorem qM(h:mL σ k=some q):ak σ k=some (.inst q.1 q.2):=by
 obtain⟨c,h1,h2⟩:=Bj h;rw[h1,OQ h2]
theorem u8{α:Type}{l:List α}(h:aF l=true):l=[]:=by
 induction l using oL with
 |nil=>rfl
 |cons a r=>exact nomatch (show false=true from h)
theorem k9{α:Type}{l:List α}{a:α}(h:kL l=some a):l=[a]:=by
 match l with
 |[]=>injection h
 |[b]=>exact congrArg (fun x=>[x]) (osI h)
 |_::_::_=>injection h
theorem qu(h:nI o=some b):∃ q,o=some q∧b=!q:=by
 induction o using oO with
 |none=>injection h
 |some q=>exact⟨q,rfl,by induction q using oB<;>exact(osI h).symm⟩
set_option tactic.hygienic true in
theorem KA(h:I1 v=some c):v=.str [.lit [c]]:=by
 induction v using AV.casesOn<;>try (injection h;done)
 rename_i s
 induction s using oL with
 |nil=>injection h
 |cons p r=>
  induction p using Pc.casesOn<;>try (injection h;done)
  rename_i l
  induction l using oL with
  |nil=>induction r using oL<;>injection h
  |cons a t=>
   induction t using oL<;>induction r using oL<;>(first|(apply j1 h;clear h;rintro rfl;rfl)|injection h)
theorem rI(h:gP β s=some v):v=.str s∧jY β s.len (.k 1000000)=some true:=by
 unfold gP at h;cases e:jY β s.len (.k 1000000) with
 |none=>rw[e] at h;injection h
 |some b=>
  rw[e] at h;cases b with
  |false=>injection h
  |true=>exact⟨(osI h).symm,rfl⟩
theorem tH(he:Γ.ε.Ok)(hb:aM β Γ.ε)(ho:cG Γ.ε s)(h:gP β s=some v):(s.val Γ.ε).length≤1000000:=by
 have:=uQ hb (rI h).2;rw[jn he ho,bV] at this;have:=of_decide_eq_true this.symm;lia
theorem VR.int_inv(h:VR Γ imm ρ v (.int l)):∃ t,v=.int (l.val Γ.ε) t:=h.inv
theorem VR.str_inv(h:VR Γ imm ρ v (.str l)):∃ t,v=.str (aG (l.val Γ.ε)) t∧cG Γ.ε l:=let ⟨t,a,b,_⟩:=h.inv;⟨t,a,b⟩
theorem VR.str_len(h:VR Γ imm ρ v (.str l)):(l.val Γ.ε).length≤16777216:=let ⟨_,_,_,b⟩:=h.inv;b
theorem eM(l:List Nat):(aG l).length=l.length:=by simp [aG,Str.length]
theorem vR(a b:List Nat):aG a++aG b=aG (a++b):=by
 show Str.mk _=Str.mk _;simp [aG]
theorem zK(h:aG a=aG b):a=b:=by
 have:=congrArg (fun x:Str=>x.cps.toList) h;exact this
theorem AG(a b:List Nat):(aG a == aG b)=co a b:=by
 cases h:co a b with
 |true=>rw[gJ.mp h];simp
 |false=>
  have:a≠b:=fun e=>by rw[gJ.mpr e] at h;injection h
  simp only [beq_eq_false_iff_ne];exact fun e=>this (zK e)
noncomputable def At(Γ:ar)(t:Value→Value→Sem Value)(a b:AV)(r:Bool):Prop :=
 ∀ {A s Q E imm ρ va vb},VR Γ imm ρ va a→VR Γ imm ρ vb b→Q (.bool r) s→wpAny (model Γ.prog Γ.w) A (t va vb) Q E s
theorem JA:gZ Γ (binaryOp .Add) (.int x) (.int y) (.int (x.add y)):=by
 intro A s Q E imm ρ va vb ha hb k;apply bx ha.int_inv;intro t e0;subst e0;apply bx hb.int_inv;intro u e0;subst e0;exact wpAny_add_int (k _ _ (.int (gQ x y).symm))
theorem Ub:gZ Γ (inplaceOp .Add) (.int x) (.int y) (.int (x.add y)):=by
 intro A s Q E imm ρ va vb ha hb k;apply bx ha.int_inv;intro t e0;subst e0;apply bx hb.int_inv;intro u e0;subst e0;exact wpAny_iadd_int (k _ _ (.int (gQ x y).symm))
theorem SN:gZ Γ (binaryOp .Sub) (.int x) (.int y) (.int (x.sub y)):=by
 intro A s Q E imm ρ va vb ha hb k;apply bx ha.int_inv;intro t e0;subst e0;apply bx hb.int_inv;intro u e0;subst e0;exact sub_int (k _ _ (.int (np x y).symm))
theorem SP:gZ Γ (inplaceOp .Sub) (.int x) (.int y) (.int (x.sub y)):=by
 intro A s Q E imm ρ va vb ha hb k;apply bx ha.int_inv;intro t e0;subst e0;apply bx hb.int_inv;intro u e0;subst e0;exact isub_int (k _ _ (.int (np x y).symm))
set_option smartUnfolding false in
theorem Ph:∀ {l:List (Nat×Int)},kR m l=true→∃ q:Int,bY Γ.ε l=(m:Int)*q:=by
 intro L0;induction L0 with
 |nil=>
  intro _;exact⟨0,by show (0:Int)=_;lia⟩
 |cons p r ih=>
  intro h;replace h:=aB (show (Nat.beq (p.2.natAbs % m) 0&&kR m r)=true from h);apply bx (ih h.2);intro q hq;have h1:=bX h.1;obtain⟨z,hz⟩ : (m:Int) ∣ p.2:=Int.ofNat_dvd_left.mpr (Nat.dvd_of_mod_eq_zero h1);refine⟨z*Γ.ε.iv p.1+q,?_⟩;show p.2*Γ.ε.iv p.1+bY Γ.ε r=_;rw[hq,hz,Int.mul_add,Int.mul_assoc]
theorem S9{x y:am}(hx:kR m x.l=true)(hy:y.conc=some (Int.ofNat m))(hm:0<m):gZ Γ (binaryOp .Mod) (.int x) (.int y) (.int (.k (Int.fmod x.c (.ofNat m)))):=by
 intro A s Q E imm ρ va vb ha hb k;apply bx ha.int_inv;intro t e0;subst e0;apply bx hb.int_inv;intro u e0;subst e0;rw[gb hy];refine mod_int' (by show (m:Int)≠0;lia) (k _ _ (.int ?_));rw[bV];apply bx (Ph (Γ:=Γ) hx);intro q hq;unfold am.val;rw[hq];show Int.fmod (x.c+(m:Int)*q) (m:Int)=Int.fmod x.c (m:Int);exact Int.add_mul_fmod_self_left ..
theorem Rv(he:Γ.ε.Ok)(hb:aM β Γ.ε){x y:SS}(h:gP β (x.app y)=some v):gZ Γ (binaryOp .Add) (.str x) (.str y) v:=by
 intro A s Q E imm ρ va vb ha hb' k;apply ah ha.str_inv;intro t e0 o1;subst e0;apply ah hb'.str_inv;intro u e0 o2;subst e0;have hl:=tH he hb (kK o1 o2) h;rw[fG] at hl;apply aN (rI h);intro e0 _;subst e0;have hz:(aG (x.val Γ.ε)).length+(aG (y.val Γ.ε)).length≤sizeLine:=by
  rw[eM,eM,sizeLine_eq];rw[ax] at hl;lia
 refine SBL.add (fun t' k' U=>?_) hz;rw[vR];exact k k' _ (.str (by rw[fG]) (kK o1 o2) (by rw[fG];lia))
theorem Ot(he:Γ.ε.Ok)(hb:aM β Γ.ε){x y:SS}(h:gP β (x.app y)=some v):gZ Γ (inplaceOp .Add) (.str x) (.str y) v:=by
 intro A s Q E imm ρ va vb ha hb' k;apply ah ha.str_inv;intro t e0 o1;subst e0;apply ah hb'.str_inv;intro u e0 o2;subst e0;have hl:=tH he hb (kK o1 o2) h;rw[fG] at hl;apply aN (rI h);intro e0 _;subst e0;have hz:(aG (x.val Γ.ε)).length+(aG (y.val Γ.ε)).length≤sizeLine:=by
  rw[eM,eM,sizeLine_eq];rw[ax] at hl;lia
 refine SBL.iadd (fun t' k' U=>?_) hz;rw[vR];exact k k' _ (.str (by rw[fG]) (kK o1 o2) (by rw[fG];lia))
theorem OK(h:u1 p q=true):p.val ε=q.val ε:=by
 induction p using Pc.casesOn with
 |lit a=>induction q using Pc.casesOn with
  |lit b=>exact gJ.mp h
  |_=>injection h
 |var i=>induction q using Pc.casesOn with
  |var j=>(obtain e:=bX h;subst e);rfl
  |_=>injection h
 |rep=>injection h
theorem GU:∀ {x y:SS},v9 x y=true→x.val ε=y.val ε
 |[],[],_=>rfl
 |[],_::_,h=>nomatch (show false=true from h)
 |_::_,[],h=>nomatch (show false=true from h)
 |p::x,q::y,h=>by
  replace h:Bool.rec (motive:=fun U=>Bool) false (v9 x y) (u1 p q)=true:=h;cases e:u1 p q with
  |false=>rw[e] at h;injection h
  |true=>
   rw[e] at h;show p.val ε++SS.val ε x=q.val ε++SS.val ε y;rw[OK e,GU h]
theorem GW(he:Γ.ε.Ok)(hb:aM β Γ.ε)(h:Bh β x y=some r)(o1:cG Γ.ε x)(o2:cG Γ.ε y):r=co (x.val Γ.ε) (y.val Γ.ε):=by
 apply aI h;clear h;intro e q h;have:=zt hb q;rw[jn he o1,jn he o2] at this;induction e using oB with
 |true=>
  cases g:v9 x y with
  |true=>rw[g] at h;(injection h with e;subst e);exact(gJ.mpr (GU g)).symm
  |false=>rw[g] at h;injection h
 |false=>
  (injection h with e;subst e);have hn:x.val Γ.ε≠y.val Γ.ε:=fun e=>by rw[e] at this;simp at this
  cases g:co (x.val Γ.ε) (y.val Γ.ε) with
  |false=>rfl
  |true=>exact absurd (gJ.mp g) hn
theorem NL(he:Γ.ε.Ok)(hb:aM β Γ.ε)(h:wn β x y=some r)(o1:cG Γ.ε x)(o2:cG Γ.ε y):r=co (x.val Γ.ε) (y.val Γ.ε):=by
 unfold wn at h;cases e1:x.conc with
 |none=>rw[e1] at h;exact GW he hb h o1 o2
 |some a=>
  rw[e1] at h;cases e2:y.conc with
  |none=>rw[e2] at h;exact GW he hb h o1 o2
  |some b=>rw[e2] at h;rw[iE e1,iE e2];exact(osI h).symm
theorem Ci(he:Γ.ε.Ok)(hb:aM β Γ.ε)(h:BU β a b=some r):At Γ (compareOp .Eq) a b r∧At Γ (compareOp .NotEq) a b (!r):=by
 induction a using AV.casesOn with
 |str x=>
  induction b using AV.casesOn with
  |str y=>
   replace h:wn β x y=some r:=h;refine⟨fun h1 h2 k=>?_,fun h1 h2 k=>?_⟩<;>obtain⟨t,rfl,o1⟩:=h1.str_inv<;>obtain⟨u,rfl,o2⟩:=h2.str_inv<;>rw[NL he hb h o1 o2,←AG] at k
   ·exact eq_str k
   ·exact ne_str k
  |none=>
   (apply j1 h;clear h;rintro rfl);refine⟨fun h1 h2 k=>?_,fun h1 h2 k=>?_⟩<;>obtain⟨t,rfl,_⟩:=h1.str_inv<;>(obtain e:_=_:=VR.inv h2;subst e)
   ·exact SeqAt.RcAt.str_none _ _ _ _ _ _ k
   ·exact SeqAt.RcNeAt.str_none _ _ _ _ _ _ k
  |_=>injection h
 |int x=>
  apply aI h;clear h;intro y e h;(obtain e:=gE e;subst e);have:=zt hb h;subst this;refine⟨fun h1 h2 k=>?_,fun h1 h2 k=>?_⟩<;>obtain⟨t,rfl⟩:=h1.int_inv<;>obtain⟨u,rfl⟩:=h2.int_inv
  ·exact eq_int k
  ·exact ne_int k
 |none=>
  apply aI h;clear h;intro y e h;(obtain e:=ni e;subst e);(apply j1 h;clear h;rintro rfl);refine⟨fun h1 h2 k=>?_,fun h1 h2 k=>?_⟩<;>obtain⟨t,rfl,_⟩:=h2.str_inv<;>(obtain e:_=_:=VR.inv h1;subst e)
  ·exact SeqAt.RcAt.none_str _ _ _ _ _ _ k
  ·exact SeqAt.RcNeAt.none_str _ _ _ _ _ _ k
 |_=>injection h
end
end
section
section
variable {Γ:ar}{β:Bd}
theorem bu.cell(C:bu Γ imm (ae cs) cs σ)(ha:ak (ae cs) k=some a)(hy:ak σ k=some y):∃ d pre post,cs=pre++d::post∧pre.length=k∧d.addr=a∧CR Γ imm (ae cs) d y:=by
 apply eZ (C.at hy);intro d pre post e0 l r;subst e0;refine⟨d,pre,post,rfl,l,?_,r⟩;have:=R8 pre post d;rw[l,ha] at this;exact(osI this).symm
theorem aj.has(R:aj Γ h₀ L h m ls σ imm (pre++d::post))(hq:q∈d.objs):q∈imm++aL (pre++d::post):=by
 rw[ny];exact cS _ (cS _ (bq _ hq))
theorem ao.len(h:ao Γ imm ρ vs xs):vs.length=xs.length:=by
 induction h using ao.ind with
 |nil=>rfl
 |cons _ _ ih=>exact congrArg (·+1) ih
noncomputable def fJ{α:Type}(Γ:ar)(σ:St)(t:Sem α)(imm:List (Addr×Obj))(cs:List CC)(r:α):Prop :=
 ∀ {c A n s m ls} {Q:α→Shared→Prop} {E:Value→Shared→Prop},bp Γ c A n→aj Γ c.h₀ c.L s.heap m ls σ imm cs→(∀ tk,Q r {s with toks:=tk})→wpAny (model Γ.prog Γ.w) A t Q E s
theorem fJ.of2(h:At Γ t a b r)(ha:VR Γ imm (ae cs) va a)(hb:VR Γ imm (ae cs) vb b) :
 fJ Γ σ (t va vb) imm cs (.bool r):=fun U U k=>h ha hb (k _)
theorem Mu(ha:VR Γ imm ρ v a):∀ r,isNone a=some r→(r=true∧v=.none)∨(r=false∧PySem.plainIs v .none=true∧v≠.none) :=
 have f:∀ {v:Value} {r:Bool},some false=some r→PySem.plainIs v .none=true→v≠.none→(r=true∧v=.none)∨(r=false∧PySem.plainIs v .none=true∧v≠.none):=fun h p q=>.inr ⟨(osI h).symm,p,q⟩
 VR.casesOn (motive_1:=fun v a U=>∀ r,isNone a=some r→(r=true∧v=.none)∨(r=false∧PySem.plainIs v .none=true∧v≠.none)) ha (fun r h=>.inl ⟨(osI h).symm,rfl⟩)
  (fun b r h=>f h rfl fun q=>by injection q) (fun U r h=>f h rfl fun q=>by injection q) (fun U U U r h=>f h rfl fun q=>by injection q) (fun U r h=>f h rfl fun q=>by injection q) (fun U U r h=>f h rfl fun q=>by injection q)
  (fun U U U U U r h=>f h rfl fun q=>by injection q) (fun U U U r h=>f h rfl fun q=>by injection q) (fun r h=>f h rfl fun q=>by injection q) (fun r h=>f h rfl fun q=>by injection q) (fun r h=>by injection h)
  (fun U U r h=>f h rfl fun q=>by injection q) (fun U r h=>by injection h) (fun U U r h=>f h rfl fun q=>by injection q)
theorem MR(h:isNone a=some r)(ha:VR Γ imm (ae cs) va a) :
  fJ Γ σ (compareOp .Is va .none) imm cs (.bool r)∧fJ Γ σ (compareOp .IsNot va .none) imm cs (.bool !r):=by
 rcases Mu ha r h with ⟨rfl,rfl⟩|⟨rfl,h1,h2⟩
 ·exact⟨fun U U k=>wpAny_is_self rfl (k _),fun U U k=>wpAny_isNot_self rfl (k _)⟩
 ·exact⟨fun U U k=>wpAny_is_other h1 h2 (k _),fun U U k=>wpAny_isNot_other h1 h2 (k _)⟩
theorem vH(hb:aM β Γ.ε)(h:t8 β a b=some r)(ha:VR Γ imm (ae cs) va a)(hb':VR Γ imm (ae cs) vb b) :
  fJ Γ σ (compareOp .Lt va vb) imm cs (.bool r)∧fJ Γ σ (compareOp .Gt vb va) imm cs (.bool r) ∧
  fJ Γ σ (compareOp .LtE vb va) imm cs (.bool !r)∧fJ Γ σ (compareOp .GtE va vb) imm cs (.bool !r):=by
 induction a using AV.casesOn with
 |int x=>
  apply aI h;clear h;intro y e h;(obtain e:=gE e;subst e);apply bx ha.int_inv;intro t e0;subst e0;apply bx hb'.int_inv;intro u e0;subst e0;have:=ul hb h;subst this;have e:(!decide (x.val Γ.ε<y.val Γ.ε))=decide (y.val Γ.ε≤x.val Γ.ε):=by by_cases z:x.val Γ.ε<y.val Γ.ε<;>simp [z]<;>lia
  rw[e];exact⟨fun U U k=>lt_int (k _),fun U U k=>gt_int (k _),fun U U k=>le_int (k _),fun U U k=>ge_int (k _)⟩
 |str x=>
  apply aI h;clear h;intro i e1 h;apply aI h;clear h;intro j e2 h;(apply j1 h;clear h;rintro rfl);apply ah (nH e2);clear e2;intro y e0 e2;subst e0;apply ah ha.str_inv;intro t e0 _;subst e0;apply ah hb'.str_inv;intro u e0 _;subst e0;rw[iE e1,iE e2,Ee];exact⟨fun U U k=>P.lt_str (k _),fun U U k=>P.gt_str (k _),fun U U k=>P.le_str (k _),fun U U k=>P.ge_str (k _)⟩
 |_=>injection h
set_option smartUnfolding false in
theorem DR.find(h:DR Γ imm ρ es ds):match jT x ds with
  |some v=>∃ val,findBy Value.isStrOf es.toArray (aG x)=some val∧VR Γ imm ρ val v
  |none=>findBy Value.isStrOf es.toArray (aG x)=none:=by
 induction h using DR.ind with
 |nil=>rfl
 |@cons hh t l v y es ds a g ih=>
  unfold findBy at ih ⊢;rw[List.find?_toArray,List.find?_cons];rw[List.find?_toArray] at ih;have e0:Value.isStrOf (aG x) (.str (aG l) t)=co l x:=AG l x;dsimp only;rw[e0,show jT x ((l,y)::ds)=Bool.rec (motive:=fun U=>Option AV) (jT x ds) (some y) (co l x) from rfl];cases q:co l x with
  |true=>exact⟨v,rfl,a⟩
  |false=>exact ih
theorem Do{h:Heap}(hg:h.get? a=some (dictOf es n))(hk:KeysLit Γ.w.params es):h.MapOf (strKind Γ.prog Γ.w) a (fun k=>findBy Value.isStrOf es.toArray k) :=
 ⟨_,es.toArray,n,hg,⟨rfl,rfl,rfl⟩,rfl,fun e he=>by
  apply tT (hk.all e (by simpa using he));intro x t e1 e2;exact⟨x,by rw[e1];exact strKind_is Γ.prog Γ.w x t,e2⟩,fun U=>rfl⟩
theorem VR.dict_inv(h:VR Γ imm ρ v (.dict ds)):∃ a es n,v=.ref a∧Kn Γ imm a (dictOf es n)∧(KeysLit Γ.ε.P es∧(a == sysModules)=false)∧DR Γ imm ρ es ds:=h.inv
theorem aj.kn(R:aj Γ h₀ L h m ls σ imm cs)(X:Γ.K.In h₀)(hk:Kn Γ imm a o):h.get? a=some o :=
 hk.elim (fun z=>(R.N _ (bq _ z)).1) (fun z=>X.keeps R.F.keep _ _ z)
theorem SG(hw:Γ.ε.P=Γ.w.params){ss:SS}(hl:ss.conc=some l){s:Shared}{Q E:Value→Shared→Prop}
  (C:bp Γ c A d) (R:aj Γ c.h₀ c.L s.heap m ls σ imm cs) (ha:VR Γ imm (ae cs) va (.dict ds)) (hi:VR Γ imm (ae cs) vi (.str ss)) (kk:∀ tk,Q (.bool (jT l ds).isSome) {s with toks:=tk}):wpAny (model Γ.prog Γ.w) A (compareOp .In vi va) Q E s:=by
 obtain⟨a,es,n,rfl,hk,⟨h1,h2⟩,hd⟩:=ha.dict_inv;apply ah hi.str_inv;intro t e0 _;subst e0;rw[iE hl];rw[hw] at h1;have f:=hd.find (x:=l);refine wpAny_in_of (strKind_is Γ.prog Γ.w (aG l) t) h2 (Do (R.kn C.X hk) h1) ?_;have e:(findBy Value.isStrOf es.toArray (aG l)).isSome=(jT l ds).isSome:=by
  cases q:jT l ds with
  |some v=>rw[q] at f;obtain⟨val,f1,_⟩:=f;rw[f1];rfl
  |none=>rw[q] at f;dsimp only at f;rw[f];rfl
 rw[e];exact kk _
noncomputable def rh(va:Value)(y:Value):Bool:=match va,y with
 |.str x _,.str z _=>z == x
 |_,_=>false
theorem TZ(ha:VR Γ imm (ae cs) va a)(hy:VR Γ imm (ae cs) vy y)(h:Dq a y=some b)(A:Around)(st:Shared):SeqAt.EqAt A st vy va (rh va vy)∧rh va vy=b:=by
 induction a using AV.casesOn with
 |none=>
  apply aI h;clear h;intro z e h;(obtain e:=ni e;subst e);(injection h with e;subst e);(obtain e:_=_:=VR.inv ha;subst e);apply ah hy.str_inv;intro t e0 _;subst e0;exact⟨SeqAt.EqAt.str_none _ _,rfl⟩
 |str s=>
  apply aI h;clear h;intro x e1 h;apply aI h;clear h;intro z e2 h;(apply j1 h;clear h;rintro rfl);apply ah (nH e2);clear e2;intro w e0 e2;subst e0;apply ah ha.str_inv;intro t e0 _;subst e0;apply ah hy.str_inv;intro u e0 _;subst e0;rw[iE e1,iE e2];exact⟨(eqGives_str _ _ _ _).at A st,AG _ _⟩
 |_=>injection h
theorem RU(ha:VR Γ imm (ae cs) va a)(A:Around)(s:Shared)(g:ao Γ imm (ae cs) vs xs):zx a xs=some b →
  (∀ y∈vs,SeqAt.EqAt A s y va (rh va y))∧vs.any (rh va)=b:=by
 induction g using ao.ind generalizing b with
 |nil=>intro h;(injection h with e;subst e);exact⟨fun U h=>(nomatch h),rfl⟩
 |cons h1 h2 ih=>
  intro h;apply aI h;clear h;intro t e1 h;apply aI h;clear h;intro c e2 h;(apply j1 h;clear h;rintro rfl);apply aN (ih e1);intro i1 i2;apply aN (TZ ha h1 e2 A s);intro o1 o2;refine⟨fun y hy=>?_,by rw[List.any_cons,i2,o2]⟩;rcases bU hy with rfl|hy
  ·exact o1
  ·exact i1 y hy
section
variable {σ:St}{a b:AV}{r:Bool}{imm:List (Addr×Obj)}{cs:List CC}{va vb:Value}
theorem Ih(h:AR a b=some r)(ha:VR Γ imm (ae cs) va a)(hb':VR Γ imm (ae cs) vb b):fJ Γ σ (compareOp .Is va vb) imm cs (.bool r)∧fJ Γ σ (compareOp .IsNot va vb) imm cs (.bool !r):=by
 induction b using AV.casesOn<;>try (injection h;done)
 (obtain e:_=_:=VR.inv hb';subst e);exact MR h ha
theorem F8(h:BR a s=some r)(ha:VR Γ imm (ae cs) va a)(hb':VR Γ imm (ae cs) vb (.str s)):fJ Γ σ (compareOp .In va vb) imm cs (.bool r)∧fJ Γ σ (compareOp .NotIn va vb) imm cs (.bool !r):=by
 apply aI h;clear h;intro c e1 h;apply aI h;clear h;intro l e2 h;(apply j1 h;clear h;rintro rfl);(obtain e:=KA e1;subst e);apply ah ha.str_inv;intro t e0 _;subst e0;apply ah hb'.str_inv;intro u e0 _;subst e0;rw[iE e2,Pf];have:=StrLaws.found_one (aG l) c;have e:aG (SS.val Γ.ε [.lit [c]])=(⟨#[c]⟩ : Str):=rfl;rw[e];exact⟨fun U U k=>in_str (by rw[this];exact k _),fun U U k=>notIn_str (by rw[this];exact k _)⟩
theorem M2(h:C8 σ a k=some r)(ha:VR Γ imm (ae cs) va a)(hb':VR Γ imm (ae cs) vb (.cell k)):fJ Γ σ (compareOp .In va vb) imm cs (.bool r):=by
 apply aI h;clear h;intro xs e h;intro c' A n s m ls Q E C R kk;apply ah hb'.cell_inv;intro al e0 hk;subst e0;apply dD (R.C.cell hk (g6 e));intro d pre post e0 l e2 cr;subst e0;apply eZ cr.list_inv;intro b vs n e0 hv hz;subst e0;(obtain e:=CC.same e2;subst e);have hin:=(R.N _ (R.has (d:=.list b vs n) (.head _))).1;apply aN (RU ha A.in1 s hv h);intro i1 i2;refine SeqAt.in_listAt (rh va) ⟨_,hin,rfl,_,rfl⟩ (fun y hy=>i1 y (by simpa using hy)) ?_;have:vs.toArray.any (rh va)=r:=by rw[←i2];simp
 rw[this];exact kk _
theorem Mh(hw:Γ.ε.P=Γ.w.params)(h:IP a es=some r)(ha:VR Γ imm (ae cs) va a)(hb':VR Γ imm (ae cs) vb (.dict es)):fJ Γ σ (compareOp .In va vb) imm cs (.bool r):=by
 apply aI h;clear h;intro x e h;(apply j1 h;clear h;rintro rfl);apply ah (nH e);clear e;intro ss e0 e;subst e0;intro c' A n s m ls Q E C R kk;exact SG hw e C R hb' ha kk
theorem ON(hw:Γ.ε.P=Γ.w.params)(he:Γ.ε.Ok)(hb:aM β Γ.ε)(h:cmp β σ op a b=some r)(ha:VR Γ imm (ae cs) va a)(hb':VR Γ imm (ae cs) vb b) :
  fJ Γ σ (compareOp op va vb) imm cs (.bool r):=by
 cases op with
 |Eq=>exact fJ.of2 (Ci he hb h).1 ha hb'
 |NotEq=>obtain⟨q,h1,rfl⟩:=qu h;exact fJ.of2 (Ci he hb h1).2 ha hb'
 |Is=>exact(Ih h ha hb').1
 |IsNot=>obtain⟨q,h1,rfl⟩:=qu h;exact(Ih h1 ha hb').2
 |Lt=>exact(vH hb h ha hb').1
 |Gt=>exact(vH hb h hb' ha).2.1
 |LtE=>obtain⟨q,h1,rfl⟩:=qu h;exact(vH hb h1 hb' ha).2.2.1
 |GtE=>obtain⟨q,h1,rfl⟩:=qu h;exact(vH hb h1 ha hb').2.2.2
 |In=>
  induction b using AV.casesOn with
  |str s=>exact(F8 h ha hb').1
  |cell k=>exact M2 h ha hb'
  |dict es=>exact Mh hw h ha hb'
  |_=>injection h
 |NotIn=>
  induction b using AV.casesOn with
  |str s=>obtain⟨q,h1,rfl⟩:=qu h;exact(F8 h1 ha hb').2
  |_=>injection h
end
theorem L7(hx:ak σ k=some c)(h:ID c=some r)(ha:VR Γ imm (ae cs) va (.cell k)):fJ Γ σ (truthy va) imm cs r:=by
 apply ah ha.cell_inv;intro a e0 hk;subst e0;intro c' A n s m ls Q E C R q;apply dD (R.C.cell hk hx);intro d pre post e0 l e2 cr;subst e0;induction c using aw.casesOn with
 |list xs=>
  apply eZ cr.list_inv;intro b vs n e0 hv hz;subst e0;(obtain e:=CC.same e2;subst e);have hin:=(R.N _ (R.has (d:=.list b vs n) (.head _))).1;refine wpAny_truthy_list ⟨_,hin,rfl,_,rfl⟩ (by have:=hv.len;simp;lia) ?_;have:(!vs.toArray.isEmpty)=r:=by
   cases xs with
   |nil=>cases ao.nil_inv hv;exact osI h
   |cons=>apply ir (ao.cons_inv hv);intro _ _ e0 _ _;subst e0;exact osI h
  rw[this];exact q _
 |rows=>injection h
 |any=>injection h
 |inst D fs=>
  (apply j1 h;clear h;rintro rfl);apply nu cr.inst_inv;intro b d es n e0 hf hp hc;subst e0;(obtain e:=CC.same e2;subst e);exact truthy_K0 R.F C.X (InstAt.of_news R.N (R.has (d:=.inst b D d es n) (.head _)) (R.has (d:=.inst b D d es n) (.tail _ (.head _)))) hc.tb hc.tl (q s.toks)
theorem xQ(he:Γ.ε.Ok)(hb:aM β Γ.ε)(h:u3 β σ v=some r)(ha:VR Γ imm (ae cs) va v) :
  fJ Γ σ (truthy va) imm cs r:=by
 induction v using AV.casesOn with
 |none=>(apply j1 h;clear h;rintro rfl);(obtain e:_=_:=VR.inv ha;subst e);exact fun U U k=>truthy_none (k _)
 |bool=>(apply j1 h;clear h;rintro rfl);(obtain e:_=_:=VR.inv ha;subst e);exact fun U U k=>wpAny_truthy_bool (k _)
 |int l=>
  apply ah (qu h);intro q e e0;subst e0;apply bx ha.int_inv;intro t e0;subst e0;have:=zt hb e;rw[bV] at this;intro c' A n s m ls Q E _ _ k;refine truthy_int ?_;have e2:(l.val Γ.ε != 0)=!q:=by rw[this];by_cases z:l.val Γ.ε=0<;>simp [z]
  rw[e2];exact k _
 |str x=>
  apply ah ha.str_inv;intro t e0 o;subst e0;have:=ul hb h;rw[bV,jn he o] at this;have hl:=ha.str_len;intro c' A n s m ls Q E _ _ k;refine SBL.truthy (by rw[eM];lia) ?_;rw[eM];have e2:(((x.val Γ.ε).length:Int) != 0)=r:=by
   rw[this]
   by_cases z:(x.val Γ.ε).length=0
   ·simp [z]
   ·rw[show (((x.val Γ.ε).length:Int) != 0)=true from bne_iff_ne.mpr (by lia)]
    symm;rw[decide_eq_true_iff];lia
  rw[e2];exact k _
 |cell k=>
  apply aI h;clear h;intro c e h;exact L7 e h ha
 |obj D fs=>
  (apply j1 h;clear h;rintro rfl);apply rB ha.obj_inv;intro a d es n e0 h1 h2 hf hp hc;subst e0;intro c' A n s m ls Q E C R q;exact truthy_K0 R.F C.X (InstAt.of_news R.N (bq _ h1) (bq _ h2)) hc.tb hc.tl (q s.toks)
 |_=>injection h
end
end
section
section
variable {Γ:ar}{β:Bd}
noncomputable abbrev lW (es:List Expr) (c:Cx):List (Bool×Sem Value):=es.map fun e=>(false,eval e c.env)
noncomputable def jS(Γ:ar)(v:Option AV):List (Addr×Obj)→List CC→Value→Prop:=fun imm cs val=>match v with
 |none=>val=.none
 |some v=>VR Γ imm (ae cs) val v
noncomputable abbrev yO (pos:Pos) (ks:List Keyword) (c:Cx):List (Sem Value):=ks.map fun k=>(do let v ←eval k.value c.env;standAt pos;pure v)
noncomputable def Ah(Γ:ar)(n:Nat)(pos:Pos)(ls:ac)(σ:St)(a:AV)(ops:List CmpOp)(rs:List Expr)(b:Bool)(σ':St):Prop :=
 ∀ {c A s m imm cs va} {E:Value→Shared→Prop},bp Γ c A n→cK c ls→aj Γ c.h₀ c.L s.heap m ls.v σ imm cs→VR Γ imm (ae cs) va a →
  (∀ {Q:Bool→Shared→Prop},(∀ h' tk imm' cs',aj Γ c.h₀ c.L h' m ls.v σ' imm' cs'→aH imm cs imm' cs'→Q b {s with heap:=h',toks:=tk})→wpAny (model Γ.prog Γ.w) A (testChain pos va ops (markedEach ops rs (evalEach rs c.env))) Q E s) ∧
  (∀ {Q:Value→Shared→Prop},(∀ h' tk imm' cs',aj Γ c.h₀ c.L h' m ls.v σ' imm' cs'→aH imm cs imm' cs'→Q (.bool b) {s with heap:=h',toks:=tk})→wpAny (model Γ.prog Γ.w) A (compareChain pos va ops (markedEach ops rs (evalEach rs c.env))) Q E s)
structure bW (Γ:ar) (n:Nat) (R:aR):Prop where
 ev:∀ {ls σ e v σ'},R.ev ls σ e=some (v,σ')→b9 Γ n (fun c=>eval e c.env) ls σ v σ'
 evo:∀ {ls σ e v σ'},R.evo ls σ e=some (v,σ')→dr Γ n (fun c=>evalPart e c.env) ls σ (jS Γ v) σ'
 evs:∀ {ls σ es vs σ'},R.evs ls σ es=some (vs,σ')→((∀ e∈es,hK e=true)∧es.length=vs.length)∧dr Γ n (fun c=>spliced (lW es c)) ls σ (qj Γ vs) σ'
 evk:∀ {ls σ ks kw σ'},R.evk ls σ ks=some (kw,σ')→ks.map (·.arg)=kw.map (fun q=>some q.1)∧∀ pos,dr Γ n (fun c=>evalAll (yO pos ks c)) ls σ (qj Γ (kw.map (·.2))) σ'
 bl:∀ {ls σ op es v σ'},R.bl ls σ op es=some (v,σ')→∀ pos,b9 Γ n (fun c=>boolOp pos op (evalEach es c.env)) ls σ v σ'
 cc:∀ {ls σ a ops rs b σ'},R.cc ls σ a ops rs=some (b,σ')→∀ pos,Ah Γ n pos ls σ a ops rs b σ'
 tst:∀ {ls σ e b σ'},R.tst ls σ e=some (b,σ')→dr Γ n (fun c=>isTrue e c.env (eval e c.env)) ls σ (ij b) σ'
 tb:∀ {ls σ op es b σ'},R.tb ls σ op es=some (b,σ')→dr Γ n (fun c=>allTrue op es c.env) ls σ (ij b) σ'
variable {n:Nat}{R:aR}{Y:Pi}
theorem NW(I:bW Γ n R)(h:yU Y R ls σ e=some (v,σ')):dr Γ n (fun c=>evalPart e c.env) ls σ (jS Γ v) σ':=by
 unfold yU at h;induction e using oO with
 |none=>
  (apply j2 h;clear h;rintro rfl rfl);intro c A s m imm cs Q E C l R k;exact wpAny_pure (k s.heap s.toks imm cs _ R (aH.refl ..) rfl)
 |some e=>
  apply b5 h;clear h;intro x σ1 h1 h;(apply j2 h;clear h;rintro rfl rfl);exact I.ev h1
theorem N7(I:bW Γ n R)(h:A8 Y R ls σ es=some (vs,σ')):((∀ e∈es,hK e=true)∧es.length=vs.length)∧dr Γ n (fun c=>spliced (lW es c)) ls σ (qj Γ vs) σ':=by
 unfold A8 at h;induction es using oL with
 |nil=>
  (apply j2 h;clear h;rintro rfl rfl);refine⟨⟨fun U q=>(nomatch q),rfl⟩,?_⟩;intro c A s m imm cs Q E C l R k;exact spliced_nil (k s.heap s.toks imm cs _ R (aH.refl ..) .nil)
 |cons e r=>
  apply bJ h;clear h;intro hs h;apply b5 h;clear h;intro x σ1 h1 h;apply b5 h;clear h;intro xs σ2 h2 h;(apply j2 h;clear h;rintro rfl rfl);apply aN (I.evs h2);intro n2 g2;refine⟨⟨fun e' q=>(bU q).elim (fun q=>q▸hs) (n2.1 e'),congrArg (·+1) n2.2⟩,?_⟩;intro c A s m imm cs Q E C l R k;refine spliced_cons (I.ev h1 C l R fun h1 t1 i1 c1 va R1 x1 q1=>g2 C l R1 fun h2 t2 i2 c2 vb R2 x2 q2=>?_);exact k h2 t2 i2 c2 _ R2 (x1.trans x2) (.cons (q1.ext x2) q2)
theorem JH(I:bW Γ n R)(h:zz Y R ls σ ks=some (kw,σ')) :
  ks.map (·.arg)=kw.map (fun q=>some q.1)∧∀ pos,dr Γ n (fun c=>evalAll (yO pos ks c)) ls σ (qj Γ (kw.map (·.2))) σ':=by
 unfold zz at h;induction ks using oL with
 |nil=>
  (apply j2 h;clear h;rintro rfl rfl);refine⟨rfl,fun pos=>?_⟩;intro c A s m imm cs Q E C l R k;exact wpAny_pure (k s.heap s.toks imm cs _ R (aH.refl ..) .nil)
 |cons e r=>
  apply aI h;clear h;intro u hs h;apply b5 h;clear h;intro x σ1 h1 h;apply b5 h;clear h;intro xs σ2 h2 h;(apply j2 h;clear h;rintro rfl rfl);apply aN (I.evk h2);intro n2 g2;refine⟨by rw[List.map_cons,List.map_cons,n2,hs],fun pos=>?_⟩;intro c A s m imm cs Q E C l R k;refine evalAll_cons (wpAny_bind (I.ev h1 C l R fun h1 t1 i1 c1 va R1 x1 q1=>wpAny_bind (wpAny_standAt (wpAny_pure ?_))));refine g2 pos C l R1 fun h2 t2 i2 c2 vb R2 x2 q2=>?_;exact k h2 t2 i2 c2 _ R2 (x1.trans x2) (.cons (q1.ext x2) q2)
theorem MI(he:Γ.ε.Ok)(hb:aM Y.β Γ.ε)(I:bW Γ n R)(h:AO Y R ls σ op es=some (v,σ'))(pos:Pos) :
  b9 Γ n (fun c=>boolOp pos op (evalEach es c.env)) ls σ v σ':=by
 unfold AO at h;induction es using oL with
 |nil=>injection h
 |cons e r=>
  induction r using oL with
  |nil=>exact I.ev h
  |cons e2 r=>
   apply b5 h;clear h;intro x σ1 h1 h;apply aI h;clear h;intro b h2 h;intro c A s m imm cs Q E C l R k;show wpAny _ _ (do let v ←eval e c.env;standAt pos;let t ←holding [v] (truthy v);match op,t with|.And,false|.Or,true=>pure v|_,_=>boolOp pos op (evalEach (e2::r) c.env)) _ _ _;refine wpAny_bind (I.ev h1 C l R fun ha ta ia ca va Ra xa qa=>wpAny_bind (wpAny_standAt (wpAny_bind (wpAny_holding ?_))));refine xQ (Γ:=Γ) he hb h2 qa C Ra fun tk=>?_;cases hst:Bq op b with
   |true=>
    rw[hst] at h;(apply j2 h;clear h;rintro rfl rfl);have fin:wpAny (model Γ.prog Γ.w) A (pure va) Q E {s with heap:=ha,toks:=tk}:=wpAny_pure (k ha tk ia ca va Ra xa qa);cases op<;>induction b using oB<;>first|(injection hst;done)|exact fin
   |false=>
    rw[hst] at h;have fin:wpAny (model Γ.prog Γ.w) A (boolOp pos op (evalEach (e2::r) c.env)) Q E {s with heap:=ha,toks:=tk} :=
     I.bl h pos C l (s:={s with heap:=ha,toks:=tk}) Ra fun h2 t2 i2 c2 vb R2 x2 q2=>k h2 t2 i2 c2 vb R2 (xa.trans x2) q2
    cases op<;>induction b using oB<;>first|(injection hst;done)|exact fin
theorem Ko(h:mc r=true)(t:Sem Value):markedBehindIn op r t=t:=by
 refine markedBehindIn_of_false ?_;induction r using PySem.Expr.casesOn<;>first|rfl|(exact Bool.noConfusion (show false=true from h))
theorem B7(pos:Pos)(va:Value)(op:CmpOp)(t:Sem Value)(ne:ops=[]→ts=[]→False) :
  testChain pos va (op::ops) (t::ts)=(do let rv ←holding [va] t;standAt pos;let q ←holding [va,rv] (compareOp op va rv);release [va,rv] [q];if ←holding [q,rv] (truthy q) then testChain pos rv ops ts else pure false) ∧
  compareChain pos va (op::ops) (t::ts)=(do let rv ←holding [va] t;standAt pos;let q ←holding [va,rv] (compareOp op va rv);release [va,rv] [q];if ←holding [q,rv] (truthy q) then compareChain pos rv ops ts else pure q):=by
 induction ops using oL with
 |nil=>
  induction ts using oL with
  |nil=>exact(ne rfl rfl).elim
  |cons=>exact⟨rfl,rfl⟩
 |cons=>exact⟨rfl,rfl⟩
theorem uV(hw:Γ.ε.P=Γ.w.params)(he:Γ.ε.Ok)(hb:aM Y.β Γ.ε)(I:bW Γ n R){ls:ac}{σ σ1:St}{a x:AV}{op:CmpOp}{r:Expr}{t:Bool}(h1:R.ev ls σ r=some (x,σ1))(h2:cmp Y.β σ1 op a x=some t)
  {c:Cx} {A:Around} {s:Shared} {m:Str→Option Value} {imm:List (Addr×Obj)} {cs:List CC} {va:Value} {E:Value→Shared→Prop} (C:bp Γ c A n) (l:cK c ls) (Rp:aj Γ c.h₀ c.L s.heap m ls.v σ imm cs) (hv:VR Γ imm (ae cs) va a)
  {α:Type} {Q:α→Shared→Prop} {pos:Pos} {P:Value→Sem α}
  (k:∀ hx tx ix cx vb,aj Γ c.h₀ c.L hx m ls.v σ1 ix cx→aH imm cs ix cx→VR Γ ix (ae cx) vb x→(∀ {Q':Value→Shared→Prop},(∀ tk,Q' (.bool t) {s with heap:=hx,toks:=tk})→wpAny (model Γ.prog Γ.w) A (compareOp op va vb) Q' E {s with heap:=hx,toks:=tx})→wpAny (model Γ.prog Γ.w) A (P vb) Q E {s with heap:=hx,toks:=tx}) :
  wpAny (model Γ.prog Γ.w) A (do let rv ←holding [va] (eval r c.env);standAt pos;P rv) Q E s :=
 wpAny_bind (wpAny_holding (I.ev h1 C l Rp fun hx tx ix cx vb Rx xx qx=>wpAny_bind (wpAny_standAt (k hx tx ix cx vb Rx xx qx fun k=>ON (Γ:=Γ) hw he hb h2 (hv.ext xx) qx C Rx k))))
theorem UB(hw:Γ.ε.P=Γ.w.params)(he:Γ.ε.Ok)(hb:aM Y.β Γ.ε)(I:bW Γ n R)(h:Ae Y R ls σ a ops rs=some (b,σ'))(pos:Pos) :
  Ah Γ n pos ls σ a ops rs b σ':=by
 unfold Ae at h;induction ops using oL with
 |nil=>injection h
 |cons op ops=>
  induction rs using oL with
  |nil=>injection h
  |cons r rs=>
   apply bJ h;clear h;intro hs h;apply b5 h;clear h;intro x σ1 h1 h;apply aI h;clear h;intro t h2 h;have many:(aF ops&&aF rs)=false→(∀ c,markedEach (op::ops) (r::rs) (evalEach (r::rs) c)=eval r c::markedEach ops rs (evalEach rs c))→(∀ c,ops=[]→markedEach ops rs (evalEach rs c)=[]→False)→Ah Γ n pos ls σ a (op::ops) (r::rs) b σ':=fun q mk ne=>by
    rw[q] at h;intro c A s m imm cs va E C l Rp hv;have ht:t=true→R.cc ls σ1 x ops rs=some (b,σ'):=fun e=>by rw[e] at h;exact h
    have hf:t=false→false=b∧σ1=σ':=fun e=>by rw[e] at h;exact Prod.mk.inj (osI h)
    clear h;exact⟨fun k=>sJ ((congrArg (testChain pos va _) (mk _)).trans (B7 pos va op _ (ne _)).1) (uV hw he hb I h1 h2 C l Rp hv fun hx tx ix cx vb Rx xx qx cm=>wpAny_bind (wpAny_holding (cm fun tk=>wpAny_bind (wpAny_release (wpAny_bind (wpAny_holding (wpAny_truthy_bool (IQ
      (fun e=>(I.cc (ht e) pos C l (s:={s with heap:=hx,toks:=tk}) Rx qx).1 fun h2 t2 i2 c2 R2 x2=>k h2 t2 i2 c2 R2 (xx.trans x2))
      fun e=>wpAny_pure ((hf e).1▸k hx tk ix cx ((hf e).2▸Rx) xx))))))))),
     fun k=>sJ ((congrArg (compareChain pos va _) (mk _)).trans (B7 pos va op _ (ne _)).2) (uV hw he hb I h1 h2 C l Rp hv fun hx tx ix cx vb Rx xx qx cm=>wpAny_bind (wpAny_holding (cm fun tk=>wpAny_bind (wpAny_release (wpAny_bind (wpAny_holding (wpAny_truthy_bool (IQ
      (fun e=>(I.cc (ht e) pos C l (s:={s with heap:=hx,toks:=tk}) Rx qx).2 fun h2 t2 i2 c2 R2 x2=>k h2 t2 i2 c2 R2 (xx.trans x2))
      fun e=>wpAny_pure (e▸(hf e).1▸k hx tk ix cx ((hf e).2▸Rx) xx)))))))))⟩
   induction ops using oL with
   |nil=>
    induction rs using oL with
    |nil=>
     apply aN (Prod.mk.inj (osI (show some (t,σ1)=some (b,σ') from h)));intro e0 e1;intro c A s m imm cs va E C l Rp hv;have mk:markedEach [op] [r] (evalEach [r] c.env)=[eval r c.env]:=congrArg (·::[]) (Ko hs _);exact⟨fun k=>sJ (congrArg (testChain pos va _) mk) <|uV hw he hb I h1 h2 C l Rp hv fun hx tx ix cx vb Rx xx qx cm=>wpAny_bind (wpAny_operate' (cm fun tk=>wpAny_holding (wpAny_truthy_bool (e0▸k hx tk ix cx (e1▸Rx) xx)))),
      fun k=>sJ (congrArg (compareChain pos va _) mk) <|uV hw he hb I h1 h2 C l Rp hv fun hx tx ix cx vb Rx xx qx cm=>wpAny_operate' (cm fun tk=>e0▸k hx tk ix cx (e1▸Rx) xx)⟩
    |cons=>exact @many rfl (fun U=>rfl) fun U U e=>by injection e
   |cons=>exact @many rfl (fun U=>rfl) fun U e U=>by injection e
theorem MD(I:bW Γ n R)(h:yL Y R ls σ op es=some (b,σ')):dr Γ n (fun c=>allTrue op es c.env) ls σ (ij b) σ':=by
 unfold yL at h;induction es using oL with
 |nil=>injection h
 |cons e r=>
  induction r using oL with
  |nil=>
   intro c A s m imm cs Q E C l Rp k;cases op with
   |And=>
    refine wpAny_allTrue_And_cons (I.tst h C l Rp fun hx tx ix cx x Rx xx qx=>?_);cases qx;induction b using oB
    ·exact k hx tx ix cx _ Rx xx rfl
    ·exact wpAny_allTrue_And_nil (k hx tx ix cx _ Rx xx rfl)
   |Or=>
    refine wpAny_allTrue_Or_cons (I.tst h C l Rp fun hx tx ix cx x Rx xx qx=>?_);cases qx;induction b using oB
    ·exact wpAny_allTrue_Or_nil (k hx tx ix cx _ Rx xx rfl)
    ·exact k hx tx ix cx _ Rx xx rfl
  |cons e2 r=>
   apply b5 h;clear h;intro x σ1 h1 h;intro c A s m imm cs Q E C l Rp k;cases op with
   |And=>
    refine wpAny_allTrue_And_cons (I.tst h1 C l Rp fun hx tx ix cx y Rx xx qx=>?_);cases qx;induction x using oB with
    |false=>(apply j2 h;clear h;rintro rfl rfl);exact k hx tx ix cx _ Rx xx rfl
    |true=>exact I.tb h C l (s:={s with heap:=hx,toks:=tx}) Rx fun h2 t2 i2 c2 vb R2 x2 q2=>k h2 t2 i2 c2 vb R2 (xx.trans x2) q2
   |Or=>
    refine wpAny_allTrue_Or_cons (I.tst h1 C l Rp fun hx tx ix cx y Rx xx qx=>?_);cases qx;induction x using oB with
    |true=>(apply j2 h;clear h;rintro rfl rfl);exact k hx tx ix cx _ Rx xx rfl
    |false=>exact I.tb h C l (s:={s with heap:=hx,toks:=tx}) Rx fun h2 t2 i2 c2 vb R2 x2 q2=>k h2 t2 i2 c2 vb R2 (xx.trans x2) q2
theorem kS(e:Expr)(sc:Scope)(gs:List Comprehension):i7 e sc gs=.other∨∃ t it,gs=[⟨t,it,[],.ofNat 0⟩]∧i7 e sc gs=.comp e t it sc:=by
 cases gs with
 |nil=>exact .inl rfl
 |cons c r=>
  obtain⟨t,it,fs,a⟩:=c;cases fs with
  |cons _ _=>exact .inl rfl
  |nil=>cases a with
   |negSucc _=>exact .inl rfl
   |ofNat n=>cases n with
    |succ _=>exact .inl rfl
    |zero=>cases r with
     |cons _ _=>exact .inl rfl
     |nil=>exact .inr ⟨_,_,rfl,rfl⟩
theorem A2(h:qK (.ListComp e gs sc pos)=true):False:=by
 unfold qK at h;rw[show vE (.ListComp e gs sc pos)=i7 e sc gs from rfl] at h;rcases kS e sc gs with q|⟨_,_,_,q⟩<;>rw[q] at h<;>injection h
theorem Um(he:Γ.ε.Ok)(hb:aM Y.β Γ.ε)(I:bW Γ n R)(h:yk Y R ls σ e=some (b,σ')) :
  dr Γ n (fun c=>isTrue e c.env (eval e c.env)) ls σ (ij b) σ':=by
 intro c A s m imm cs Q E C l Rp k;have plain:HR Y R ls σ e=some (b,σ')→(isTrue e c.env (eval e c.env)=do let v ←eval e c.env;standAt e.pos;holding [v] (truthy v))→wpAny (model Γ.prog Γ.w) A (isTrue e c.env (eval e c.env)) Q E s:=by
  intro h e2;apply b5 h;clear h;intro x σ1 h1 h;apply aI h;clear h;intro t h2 h;(apply j2 h;clear h;rintro rfl rfl);refine wpAny_isTrue_value (I.ev h1 C l Rp fun hx tx ix cx vb Rx xx qx=>?_) e2;exact xQ (Γ:=Γ) he hb h2 qx C Rx fun tk=>k hx tk ix cx _ Rx xx rfl
 induction e using PySem.Expr.casesOn with
 |BoolOp op vs pos=>exact wpAny_isTrue_BoolOp (I.tb h C l Rp k)
 |UnaryOp op e2 pos=>
  cases op with
  |Not=>
   apply b5 (show (obp (R.tst ls σ e2) fun b σ=>some (!b,σ))=some (b,σ') from h);clear h;intro x σ1 h1 h;(apply j2 h;clear h;rintro rfl rfl);refine wpAny_isTrue_Not (I.tst h1 C l Rp fun hx tx ix cx vb Rx xx qx=>?_);cases qx;exact k hx tx ix cx _ Rx xx rfl
  |_=>injection h
 |Compare lx ops rs pos=>
  apply b5 (show GH R ls σ lx ops rs=some (b,σ') from h);clear h;intro x σ1 h1 h;show wpAny _ _ (do testChain pos (←eval lx c.env) ops (markedEach ops rs (evalEach rs c.env))) _ _ _;refine wpAny_bind (I.ev h1 C l Rp fun hx tx ix cx vb Rx xx qx=>?_);exact(I.cc h pos (s:={s with heap:=hx,toks:=tx}) C l Rx qx).1 fun h2 t2 i2 c2 R2 x2=>k h2 t2 i2 c2 _ R2 (xx.trans x2) rfl
 |IfExp=>injection h
 |ListComp e2 gs sc pos=>
  refine plain ?_ rfl;unfold yk at h;rw[show vE (.ListComp e2 gs sc pos)=i7 e2 sc gs from rfl] at h;rcases kS e2 sc gs with q|⟨_,_,_,q⟩<;>rw[q] at h<;>exact h
 |_=>exact plain h rfl
end
end
section
section
variable {Γ:ar}{β:Bd}
structure ec (Γ:ar) (C:Addr) (c:CI):Prop where
 cls:iH Γ C
 meths:∀ x f,lk x c.meths=some f→findIn Γ.K (.ref C) x=some (some (.ref f))∧isFn Γ.K (.ref f)=true∧fnIn Γ.K f=true∧specialIn Γ.K (.ref f) "__get__"=some (some (.builtin "function.__get__"))∧takesIn Γ.K (.ref f)=some false∧copiedNames.contains x=false
 consts:∀ x v,lk x c.consts=some v→∃ a,findIn Γ.K (.ref C) x=some (some a)∧specialIn Γ.K a "__get__"=some none∧handedIn a=true∧copiedNames.contains x=false∧∀ imm ρ,VR Γ imm ρ a v
 flds:∀ x,jD x c.flds=true→findIn Γ.K (.ref C) x=some none∧takerIn Γ.K C x=some none
 isa:(∃ cd,clsIn Γ.K C=some cd∧cd.mro.isEmpty=false∧∀ D,cd.mro.contains (.ref D)=c.mro.any (Nat.beq D))∧typeIn Γ.K (.ref C)=some (.type "type")∧c.mro.any (Nat.beq C)=true
 kin:plainGet Γ.K C "__class__"=true∧findIn Γ.K (.ref C) "__class__"=some (some (.builtin "object.__class__"))∧specialIn Γ.K (.builtin "object.__class__") "__get__"=some (some (.builtin "getset_descriptor.__get__"))∧takesIn Γ.K (.builtin "object.__class__")=some true∧mroIn Γ.K C (.type "object")=some true
 init:∀ f,c.init=some f→findIn Γ.K (.ref C) "__init__"=some (some (.ref f))∧typeIn Γ.K (.ref f)=some (.type "function")∧makesIn Γ.K C=true
theorem be.noRef(h:be Γ imm ρ es fs):es.any (·.refKey)=false:=by
 induction h using be.ind with
 |nil=>rfl
 |cons _ _ ih=>rw[List.any_cons,ih];rfl
set_option tactic.hygienic true in
theorem be.get(hf:be Γ imm ρ es fs):match lk x fs with
  |some v=>∃ val,getL x es=some (some val)∧VR Γ imm ρ val v
  |none=>es.find? (·.key.isStr x)=none:=by
 induction hf using be.ind with
 |nil=>rfl
 |@cons h t n v y es fs a g ih=>
  rw[fE]
  by_cases q:n=x
  ·subst q
   rw[if_pos rfl];refine⟨v,?_,a⟩;unfold getL;have:(⟨h,.str n t,v⟩::es:List DictEntry).find? (·.key.isStr n)=some ⟨h,.str n t,v⟩:=by rw[List.find?_cons];simp [Value.isStr]
   rw[this]
  ·rw[if_neg q]
   have ne:(Value.str n t).isStr x=false:=by simp [Value.isStr,q]
   have e:(⟨h,.str n t,v⟩::es:List DictEntry).find? (·.key.isStr x)=es.find? (·.key.isStr x):=by rw[List.find?_cons];simp [ne]
   cases z:lk x fs with
   |none=>rw[z] at ih;dsimp only at ih ⊢;rw[e];exact ih
   |some u=>
    rw[z] at ih;dsimp only at ih ⊢;apply ah ih;intro val b1 b2;refine⟨val,?_,b2⟩;unfold getL at b1 ⊢;rw[e]
    split at b1
    ·rename_i w h1;first|exact b1|(rw[h1];exact b1)
    ·rename_i h1
     rw[if_neg (by rw[g.noRef];decide)] at b1;cases b1
theorem be.miss(g:be Γ imm ρ es fs)(h:lk x fs=none):getL x es=some none:=by
 have:=g.get (x:=x);rw[h] at this;unfold getL;rw[this,if_neg (by rw[g.noRef];decide)]
theorem jv{α:Type}{x:Str}{v:α}:∀ {l:List (Str×α)},lk x l=some v→(x,v)∈l
 |(y,u)::r,h=>by
  rw[fE] at h
  by_cases q:y=x
  ·rw[if_pos q] at h;(apply j1 h;clear h;rintro rfl);rw[q];exact .head _
  ·rw[if_neg q] at h;exact .tail _ (jv h)
theorem yf(h:VR Γ imm ρ val v)(n:vJ v=true):handedIn val=true:=by cases h<;>first|rfl|injection n
section
variable {Y:Pi}{σ:St}{r:AV}{x:Str}{c:Cx}{A:Around}{n:Nat}{s:Shared}{m:Str→Option Value}{ls:List (Str×AV)}{imm:List (Addr×Obj)}{cs:List CC}{va:Value}{Q E:Value→Shared→Prop}{expr:Bool}
theorem RK(hy:∀ C c,Y.ci C=some c→ec Γ C c){i:Nat}(h:zX Y σ i x=some r)(C:bp Γ c A n)(R:aj Γ c.h₀ c.L s.heap m ls σ imm cs)(hv:VR Γ imm (ae cs) va (.cell i))
  (k:∀ h' tk imm' cs' val,aj Γ c.h₀ c.L h' m ls σ imm' cs'→aH imm cs imm' cs'→VR Γ imm' (ae cs') val r→Q val {s with heap:=h',toks:=tk}):wpAny (model Γ.prog Γ.w) A (getAttr va x expr) Q E s:=by
 apply b5 h;clear h;intro D fs e1 h;apply ah hv.cell_inv;intro a e0 ha;subst e0;apply dD (R.C.cell ha (qM e1));intro d pre post e0 l e2 cr;subst e0;apply nu cr.inst_inv;intro b d es n' e0 hf hp hc;subst e0;(obtain e:=CC.same e2;subst e);have I:=InstAt.of_news R.N (R.has (d:=.inst b D d es n') (.head _)) (R.has (d:=.inst b D d es n') (.tail _ (.head _)));have g:=hf.get (x:=x);dsimp only at g;cases z:lk x fs with
 |some u=>
  rw[z] at h g;apply bJ h;clear h;intro h1 h;(apply j1 h;clear h;rintro rfl);apply ah g;intro val g1 g2;exact get_own R.F C.X I hc.ga hc.hd (hp _ (jv z)) rfl g1 (yf g2 h1) (k s.heap _ imm _ val R (aH.refl ..) g2)
 |none=>
  rw[z] at h;apply aI h;clear h;intro ci h1 h;have ok:=hy _ _ h1;unfold wL at h;cases z2:lk x ci.meths with
  |some f=>
   rw[z2] at h;(apply j1 h;clear h;rintro rfl);apply mV (ok.meths x f z2);intro m1 m2 m3 m4 m5 m6;have gt:=get_bind (prog:=Γ.prog) (w:=Γ.w) (A:=A) (E:=E) (s:=s) (expr:=expr) (Q:=Q) (C.X.keeps R.F.keep) I (plainGet_of hc.ga).1 (findObj_fn hc.hd m1 m4 m5 m6 (by show lookIn x (dictOf es n')=_;rw[lookIn_dict,hf.miss z])) (plainGet_of hc.ga).2;refine gt (wpAny_call (fn_get (s:={s with toks:=s.toks+1}) (C.X.keeps R.F.keep) (beq_iff_eq.mp m2) (handed_on rfl ?_)));exact k _ _ _ _ _ (R.newI (methodObj (.ref f) (.ref b)) rfl) (R.extI _) (.meth (.head _) (.cell ha))
  |none=>
   rw[z2] at h;apply yY (ok.consts x r h);intro a c1 c2 c3 c4 c5;exact get_cls R.F C.X I hc.ga hc.hd c1 c2 c3 c4 (hf.miss z) (k s.heap _ imm _ a R (aH.refl ..) (c5 ..))
theorem Fi(hy:∀ C c,Y.ci C=some c→ec Γ C c){v:AV}(h:mn Y σ v x=some r)(C:bp Γ c A n)(R:aj Γ c.h₀ c.L s.heap m ls σ imm cs)(hv:VR Γ imm (ae cs) va v)
  (k:∀ h' tk imm' cs' val,aj Γ c.h₀ c.L h' m ls σ imm' cs'→aH imm cs imm' cs'→VR Γ imm' (ae cs') val r→Q val {s with heap:=h',toks:=tk}):wpAny (model Γ.prog Γ.w) A (getAttr va x expr) Q E s:=by
 induction v using AV.casesOn with
 |cell i=>exact RK hy h C R hv k
 |obj D fs=>
  apply aI (show Bl fs x=some r from h);clear h;intro u e1 h;apply bJ h;clear h;intro h1 h;(apply j1 h;clear h;rintro rfl);apply rB hv.obj_inv;intro a d es n' e0 i1 i2 hf hp hc;subst e0;have g:=hf.get (x:=x);rw[e1] at g;apply ah g;intro val g1 g2;exact get_own R.F C.X (InstAt.of_news R.N (bq _ i1) (bq _ i2)) hc.ga hc.hd (hp _ (jv e1)) rfl g1 (yf g2 h1) (k s.heap _ imm _ val R (aH.refl ..) g2)
 |_=>injection h
end
theorem Gf(h:qA o=true):attributeBase o attr env whole=whole:=by
 induction o using PySem.Expr.casesOn<;>first|rfl|(exact Bool.noConfusion (show false=true from h))
theorem Ro{Y:Pi}(hy:∀ C c,Y.ci C=some c→ec Γ C c)(I:bW Γ n R)
  (h:GA Y R ls σ o x=some (r,σ')):b9 Γ n (fun c=>eval (.Attribute o x pos) c.env) ls σ r σ':=by
 apply bJ h;clear h;intro h0 h;apply b5 h;clear h;intro v σ1 h1 h;apply aI h;clear h;intro r h2 h;(apply j2 h;clear h;rintro rfl rfl);intro c A s m imm cs Q E C l Rp k;refine Attribute_any_ (I.ev h1 C l Rp fun hx tx ix cx vb Rx xx qx=>?_) ?_
 ·exact Fi hy h2 (s:={s with heap:=hx,toks:=tx}) C Rx qx fun h2 t2 i2 c2 vb R2 x2 q2=>k h2 t2 i2 c2 vb R2 (xx.trans x2) q2
 ·show (do let o' ←attributeBase o x c.env (eval o c.env);standAt pos.atName;let r ←holding [o'] (getAttr o' x true);letTemporaryGo o o' r;pure r)=_
  rw[Gf h0]
theorem UO(I:bW Γ n R)
  (h:Db R ls σ t b o=some (r,σ')):b9 Γ n (fun c=>eval (.IfExp t b o pos) c.env) ls σ r σ':=by
 apply b5 h;clear h;intro v σ1 h1 h;intro c A s m imm cs Q E C l Rp k;refine wpAny_IfExp (I.tst h1 C l Rp fun hx tx ix cx vb Rx xx qx=>?_);cases qx;induction v using oB with
 |true=>exact I.ev h (s:={s with heap:=hx,toks:=tx}) C l Rx fun h2 t2 i2 c2 vb R2 x2 q2=>k h2 t2 i2 c2 vb R2 (xx.trans x2) q2
 |false=>exact I.ev h (s:={s with heap:=hx,toks:=tx}) C l Rx fun h2 t2 i2 c2 vb R2 x2 q2=>k h2 t2 i2 c2 vb R2 (xx.trans x2) q2
theorem TJ(I:bW Γ n R)
  (h:Fp R ls σ e ops rs=some (r,σ')):b9 Γ n (fun c=>eval (.Compare e ops rs pos) c.env) ls σ r σ':=by
 apply b5 h;clear h;intro v σ1 h1 h;apply b5 h;clear h;intro b σ2 h2 h;(apply j2 h;clear h;rintro rfl rfl);intro c A s m imm cs Q E C l Rp k;show wpAny _ _ (do compareChain pos (←eval e c.env) ops (markedEach ops rs (evalEach rs c.env))) _ _ _;refine wpAny_bind (I.ev h1 C l Rp fun hx tx ix cx vb Rx xx qx=>?_);exact(I.cc h2 pos (s:={s with heap:=hx,toks:=tx}) C l Rx qx).2 fun h2 t2 i2 c2 R2 x2=>k h2 t2 i2 c2 _ R2 (xx.trans x2) (.bool _)
theorem ut{c:Cx}(pos:Pos):(∀ e∈es,hK e=true)→backTo pos (starEach es c.env)=lW es c:=by
 induction es with
 |nil=>intro _;rfl
 |cons e r ih=>
  intro h;have e1:starEach (e::r) c.env=(false,eval e c.env)::starEach r c.env:=by
   have:=h e (.head _);induction e using PySem.Expr.casesOn<;>first|rfl|(exact Bool.noConfusion (show false=true from this))
  rw[e1];show (false,eval e c.env)::backTo pos (starEach r c.env)=_;rw[ih fun x hx=>h x (.tail _ hx)];rfl
theorem SL(I:bW Γ n R)
  (h:Cg R ls σ es=some (r,σ')):b9 Γ n (fun c=>eval (.Tuple es q pos) c.env) ls σ r σ':=by
 apply b5 h;clear h;intro vs σ1 h1 h;apply bJ h;clear h;intro h2 h;(apply j2 h;clear h;rintro rfl rfl);apply aN (I.evs h1);intro ns g;have hz:=df h2;rw[b7] at hz;intro c A s m imm cs Q E C l Rp k;refine wpAny_Tuple ?_;rw[ut pos ns.1];refine g C l Rp fun hx tx ix cx x Rx xx qx=>⟨by rw[qx.len,sizeLine_eq];lia,?_⟩;exact k _ tx _ _ _ (Rx.newI _ rfl) (xx.trans (Rx.extI _)) (.tup (.inl (.head _)) (qx.ext (Rx.extI _)))
end
end
section
section
variable {α β:Type}
theorem oA(f:α→β)(x:Str):∀ l:List (Str×α),lk x (l.map fun q=>(q.1,f q.2))=(lk x l).map f:=by
 intro L0;induction L0 with
 |nil=>
  exact rfl
 |cons x0 r ih=>
  obtain⟨y,u⟩:=x0;rw[List.map_cons,fE,fE,ih]
  by_cases e:y=x
  ·rw[if_pos e,if_pos e];rfl
  ·rw[if_neg e,if_neg e]
set_option smartUnfolding false in
theorem T3(f:α→β)(names:List Str):∀ (kw sl:List (Str×α)),lK names (sl.map fun q=>(q.1,f q.2)) (kw.map fun q=>(q.1,f q.2))=lK names sl kw:=by
 intro L0;induction L0 with
 |nil=>
  intro _;exact rfl
 |cons x0 r ih=>
  obtain⟨k,v⟩:=x0;intro sl;show Bool.rec (motive:=fun U=>Bool) false (Option.rec (motive:=fun U=>Bool) (lK names (sl.map (fun q=>(q.1,f q.2))++[(k,f v)]) (r.map fun q=>(q.1,f q.2))) (fun U=>false) (lk k (sl.map fun q=>(q.1,f q.2)))) (jD k names)=Bool.rec (motive:=fun U=>Bool) false (Option.rec (motive:=fun U=>Bool) (lK names (sl++[(k,v)]) r) (fun U=>false) (lk k sl)) (jD k names);rw[oA];cases jD k names with
  |false=>rfl
  |true=>
   cases lk k sl with
   |some _=>rfl
   |none=>
    have:=ih (sl++[(k,v)]);rw[List.map_append] at this;exact this
set_option smartUnfolding false in
theorem RV(f:α→β):∀ (d sl:List (Str×α)),gT (sl.map fun q=>(q.1,f q.2)) (d.map fun q=>(q.1,f q.2))=(gT sl d).map fun q=>(q.1,f q.2):=by
 intro L0;induction L0 with
 |nil=>
  intro _;exact rfl
 |cons x0 r ih=>
  obtain⟨x,v⟩:=x0;intro sl;show Option.rec (motive:=fun U=>List (Str×β)) (gT (sl.map (fun q=>(q.1,f q.2))++[(x,f v)]) (r.map fun q=>(q.1,f q.2))) (fun U=>gT (sl.map fun q=>(q.1,f q.2)) (r.map fun q=>(q.1,f q.2))) (lk x (sl.map fun q=>(q.1,f q.2)))=(Option.rec (motive:=fun U=>List (Str×α)) (gT (sl++[(x,v)]) r) (fun U=>gT sl r) (lk x sl)).map fun q=>(q.1,f q.2);rw[oA];cases lk x sl with
  |some _=>exact ih sl
  |none=>
   have:=ih (sl++[(x,v)]);rw[List.map_append] at this;exact this
set_option smartUnfolding false in
theorem NV(f:α→β)(sl:List (Str×α)):∀ names,eW (sl.map fun q=>(q.1,f q.2)) names=(eW sl names).map fun q=>(q.1,f q.2):=by
 intro L0;induction L0 with
 |nil=>
  exact rfl
 |cons x r ih=>
  show Option.rec (motive:=fun U=>List (Str×β)) (eW (sl.map fun q=>(q.1,f q.2)) r) (fun v=>(x,v)::eW (sl.map fun q=>(q.1,f q.2)) r) (lk x (sl.map fun q=>(q.1,f q.2)))=List.map (fun q=>(q.1,f q.2)) (Option.rec (motive:=fun U=>List (Str×α)) (eW sl r) (fun v=>(x,v)::eW sl r) (lk x sl));rw[oA,ih];cases lk x sl<;>rfl
set_option smartUnfolding false in
theorem MJ(f:α→β)(sl:List (Str×α)):∀ names,mo (sl.map fun q=>(q.1,f q.2)) names=mo sl names:=by
 intro L0;induction L0 with
 |nil=>
  exact rfl
 |cons x r ih=>
  show Option.rec (motive:=fun U=>Bool) false (fun U=>mo (sl.map fun q=>(q.1,f q.2)) r) (lk x (sl.map fun q=>(q.1,f q.2)))=Option.rec (motive:=fun U=>Bool) false (fun U=>mo sl r) (lk x sl);rw[oA,ih];cases lk x sl<;>rfl
theorem FT(f:α→β)(names:List Str)(l:List α):names.zip (l.map f)=(names.zip l).map fun q=>(q.1,f q.2):=by
 rw[List.zip_map_right];rfl
theorem IK(f:α→β)(names:List Str)(dflt pos:List α)(kw:List (Str×α)):iY names (dflt.map f) (pos.map f) (kw.map fun q=>(q.1,f q.2))=(iY names dflt pos kw).map fun l=>l.map fun q=>(q.1,f q.2):=by
 unfold iY;rw[FT,T3,←List.map_append,MJ,FT,RV,NV];simp only [b7,List.length_map];cases Nat.ble pos.length names.length<;>cases Nat.ble dflt.length names.length<;>cases lK names (names.zip pos) kw<;>cases mo (names.zip pos++kw) (aP (names.length-dflt.length) names)<;>rfl
set_option smartUnfolding false in
theorem EG{sl:List (Str×α)}:∀ {names:List Str},∀ q∈eW sl names,lk q.1 sl=some q.2:=by
 intro L0;induction L0 with
 |nil=>
  intro q h;cases h
 |cons x r ih=>
  intro q h;replace h:q∈Option.rec (motive:=fun U=>List (Str×α)) (eW sl r) (fun v=>(x,v)::eW sl r) (lk x sl):=h;cases e:lk x sl with
  |none=>rw[e] at h;exact ih q h
  |some v=>
   rw[e] at h;cases h with
   |head=>exact e
   |tail _ h=>exact ih q h
theorem MG{l:List (Str×α)}(h:l.lookup x=some v):(x,v)∈l:=by rw[←jm] at h;exact jv h
theorem UD:∀ {l:List (Str×α)},(x,v)∈l→∃ u,l.lookup x=some u:=by
 intro l;induction l with
 |nil=>intro h;cases h
 |cons y r ih=>
  intro h;rw[←jm,show lk x (y::r)=_ from fE x y.1 y.2 r]
  by_cases e:y.1=x
  ·exact⟨_,if_pos e⟩
  ·rw[if_neg e,jm]
   cases h with
   |head=>exact absurd rfl e
   |tail _ q=>exact ih q
theorem Oz(h:lk x (eW sl names)=some v):(eW sl names).reverse.lookup x=some v:=by
 have h1:=jv h;apply bx (UD (List.mem_reverse.mpr h1));intro u hu;have h2:=EG _ (List.mem_reverse.mp (MG hu));have h3:=EG _ h1;dsimp only at h2 h3;rw[h3] at h2;rw[hu,←h2]
end
section
theorem Lb{γ δ:Type}{f:γ→List γ×δ→Sem (ForInStep (List γ×δ))}(e:δ):∀ (l acc:List γ),(∀ pre x post,l=pre++x::post→f x (acc++pre,e)=pure (.yield (acc++pre++[x],e)))→forIn l (acc,e) f=pure (acc++l,e):=by
 intro L0;induction L0 with
 |nil=>
  intro acc _;rw[List.forIn_nil,af]
 |cons x r ih=>
  intro acc h;rw[List.forIn_cons];have h1:=h [] x r rfl;rw[af] at h1;rw[h1,pure_bind];have:=ih (acc++[x]) fun pre y post q=>by
   have:=h (x::pre) y post (by rw[q];rfl);simpa using this
  dsimp only;rw[this];simp
set_option smartUnfolding false in
theorem Tm{α:Type}{names:List Str}:∀ {kw sl:List (Str×α)},lK names sl kw=true→∀ pre x post,kw=pre++x::post→jD x.1 names=true∧lk x.1 (sl++pre)=none:=by
 intro kw;induction kw with
 |nil=>intro _ _ pre x post e;induction pre using List.casesOn<;>injection e
 |cons y r ih=>
  intro sl h pre x post e;replace h:Bool.rec (motive:=fun U=>Bool) false (Option.rec (motive:=fun U=>Bool) (lK names (sl++[y]) r) (fun U=>false) (lk y.1 sl)) (jD y.1 names)=true:=h;cases q:jD y.1 names with
  |false=>rw[q] at h;injection h
  |true=>
   rw[q] at h;cases z:lk y.1 sl with
   |some _=>rw[z] at h;injection h
   |none=>
    rw[z] at h;induction pre using List.casesOn with
    |nil=>injection e with e1 e2;subst e1;exact⟨q,by rw[af];exact z⟩
    |cons y pre=>
     injection e with e1 e2;subst e1;have:=ih h pre x post e2;rw[aX] at this;exact this
theorem AH{x:Str}:∀ {l:List Str},jD x l=true→x∈l
 |y::r,h=>by
  replace h:Bool.rec (motive:=fun U=>Bool) (jD x r) true (seq y x)=true:=h;cases q:seq y x with
  |true=>rw[hU.mp q];exact .head _
  |false=>rw[q] at h;exact .tail _ (AH h)
set_option smartUnfolding false in
theorem KO{α:Type}{g:Str×α→List (Str×α)→Sem (ForInStep (List (Str×α)))}(hg:∀ q sl,g q sl=(if (sl.lookup q.1).isNone then pure (.yield (sl++[(q.1,q.2)])) else pure (.yield sl))):∀ (d sl:List (Str×α)),forIn d sl g=pure (gT sl d):=by
 intro L0;induction L0 with
 |nil=>
  intro _;exact List.forIn_nil
 |cons x0 r ih=>
  obtain⟨x,v⟩:=x0;intro sl;rw[List.forIn_cons,hg];rw[show gT sl ((x,v)::r)=Option.rec (motive:=fun U=>List (Str×α)) (gT (sl++[(x,v)]) r) (fun U=>gT sl r) (lk x sl) from rfl];dsimp only;rw[←jm];cases lk x sl with
  |none=>simp only [Option.isNone_none,if_true,pure_bind];exact ih _
  |some u=>simp only [Option.isNone_some,Bool.false_eq_true,if_false,pure_bind];exact ih _
set_option smartUnfolding false in
theorem Q4{α:Type}(sl:List (Str×α)):∀ names:List Str,names.filterMap (fun n=>(sl.lookup n).map (n,·))=eW sl names:=by
 intro L0;induction L0 with
 |nil=>
  exact rfl
 |cons x r ih=>
  show _=Option.rec (motive:=fun U=>List (Str×α)) (eW sl r) (fun v=>(x,v)::eW sl r) (lk x sl);rw[List.filterMap_cons,ih,←jm];cases lk x sl<;>rfl
set_option smartUnfolding false in
theorem Jx{α:Type}{sl:List (Str×α)}:∀ {l:List Str},mo sl l=true→l.filter (fun n=>(sl.lookup n).isNone)=[]:=by
 intro L0;induction L0 with
 |nil=>
  intro _;exact rfl
 |cons x r ih=>
  intro h;replace h:Option.rec (motive:=fun U=>Bool) false (fun U=>mo sl r) (lk x sl)=true:=h;rw[List.filter_cons,←jm];cases e:lk x sl with
  |none=>rw[e] at h;injection h
  |some v=>rw[e] at h;exact ih h
theorem SM{M:Model}{A:Around}{α β γ δ:Type}{t:Sem α}{m:Sem β}{c d:α→β→Prop}[∀ r a,Decidable (c r a)][∀ r a,Decidable (d r a)]{x y:α→β→Sem δ}{u:α→β→Sem γ}{z:α→β→γ→Sem δ}{Q:δ→Shared→Prop}{E:Value→Shared→Prop}{s:Shared}(r:α)(w:γ)(v:δ){P:β→Prop}
  (ht:t=pure r) (hm:wpAny M A m (fun a s'=>P a∧s'=s) E s) (k:Q v s) (hc:∀ a,P a→¬ c r a) (hd:∀ a,P a→¬ d r a) (hu:∀ a,P a→u r a=pure w) (hz:∀ a,P a→z r a w=pure v) :
  wpAny M A (t >>= fun r=>m >>= fun a=>if c r a then x r a else if d r a then y r a else u r a >>= z r a) Q E s:=by
 rw[ht,pure_bind];refine wpAny_bind (wpAny_mono hm (fun a s' h=>?_) fun U U x=>x);rw[if_neg (hc a h.1),if_neg (hd a h.1),hu a h.1,pure_bind,hz a h.1,h.2];exact wpAny_pure k
theorem CH{fd:FuncData}{as:List Arg}{ds:List PySem.Expr}{pos:List Value}{kw binds:List (Str×Value)}{items:List Value}{s:Shared}
  (hp:fd.params={posonlyargs:=[],args:=as,vararg:=none,kwonlyargs:=[],kw_defaults:=[],kwarg:=none,defaults:=ds})
  (hd:(fd.defaults=.none∧items=[])∨∃ t o q,fd.defaults=.ref t∧s.heap.get? t=some o∧o.data=.seq items.toArray q)
  (h:iY (as.map (·.arg)) items pos kw=some binds):BindsTo s fd ⟨pos,kw⟩ binds:=by
 intro M A E Q k;obtain⟨f1,f2,p,f4,f5,f6,f7,f8,f9,f10,f11,f12,f13,f14,f15⟩:=fd;obtain rfl:p=_:=hp;unfold iY at h;apply bJ h;clear h;intro h1 h;apply bJ h;clear h;intro h2 h;apply bJ h;clear h;intro h3 h;apply bJ h;clear h;intro h4 h;(apply j1 h;rintro rfl);clear h;have h1:=df h1;have h2:=df h2;rw[b7] at h1 h2;rw[b7] at h1 h2;rw[b7,b7,mB] at h4;rw[b7,b7,uh] at k;generalize hF:gT _ _=F at k;rw[←Q4,←af (as.map _)] at k;have ng:¬ pos.length>(as.map (·.arg)).length:=Nat.not_lt.mpr h1;have hd0:items.length-(as.map (·.arg)).length=0:=Nat.sub_eq_zero_of_le h2;have D:∀ a:Option (Array Value),a.getD #[]=items.toArray→(a.getD #[]).toList.drop ((a.getD #[]).toList.length-(as.map (·.arg)).length)=items:=fun a e=>by
  rw[e];show items.drop (items.length-_)=_;rw[hd0];rfl
 refine SM (P:=fun a=>a.getD #[]=items.toArray) (_,[]) F _ (Lb (e:=([]:List (Str×Value))) kw ((as.map (·.arg)).zip pos) ?_) ?_ k ?_ ?_ ?_ ?_
 ·intro pre x post e
  apply aN (Tm h3 pre x post e);intro a b;have ha:(as.map (·.arg)).contains x.1=true:=List.contains_iff_mem.mpr (AH a);rw[jm] at b;dsimp only;refine(if_pos (by show (_ ||_)=true;rw[ha];rfl)).trans ?_;rw[b,if_neg (by decide)]
 ·rcases hd with ⟨a,rfl⟩|⟨t,o,q,a,b,c⟩
  ·rw[a];exact wpAny_pure ⟨rfl,rfl⟩
  ·rw[a];exact wpAny_seqItems b c ⟨rfl,rfl⟩
 ·intro a e h
  exact ng (of_decide_eq_true (show decide (pos.length>(as.map (·.arg)).length)=true from by rw[←Bool.and_true (decide _)];exact h))
 ·intro a e h
  have E:=(congrArg (fun n=>List.filter (fun n=>(List.lookup n ((as.map (·.arg)).zip pos++kw)).isNone) (List.take ((as.map (·.arg)).length-n) (as.map (·.arg)))) (congrArg List.length (D a e))).trans (Jx h4);exact Bool.false_ne_true ((congrArg (fun l:List Str=>!l.isEmpty) E).symm.trans h)
 ·intro a e
  exact(KO (fun q sl=>rfl) _ _).trans (congrArg pure ((congrArg (fun l=>gT _ (((as.map (·.arg)).drop (_-l.length)).zip l)) (D a e)).trans hF))
 ·intro a e
  rfl
end
end
section
section
variable {Γ:ar}{β:Bd}
inductive FR (Γ:ar) (imm:List (Addr×Obj)) (cs:List CC):Flow→Fl→Prop
 |next:FR Γ imm cs .next .next
 |ret {val:Value} {v:AV}:VR Γ imm (ae cs) val v→FR Γ imm cs (.ret val) (.ret v)
noncomputable def Ds(Γ:ar)(imm:List (Addr×Obj))(cs:List CC)(fl:Flow)(f:Fl):Prop:=match f with
 |.next=>.next=fl
 |.ret v=>∃ val,fl=.ret val∧VR Γ imm (ae cs) val v
theorem FR.inv(h:FR Γ imm cs fl f):Ds Γ imm cs fl f:=FR.casesOn (motive:=fun fl f U=>Ds Γ imm cs fl f) h rfl fun a=>⟨_,rfl,a⟩
noncomputable def bt(Γ:ar)(n:Nat)(t:Cx→Sem Flow)(ls:ac)(σ:St)(f:Fl)(ls':ac)(σ':St):Prop :=
 ∀ {c A s m imm cs} {Q:Flow→Shared→Prop} {E:Value→Shared→Prop},bp Γ c A n→cK c ls→aj Γ c.h₀ c.L s.heap m ls.v σ imm cs →
  (∀ h' tk m' imm' cs' fl,aj Γ c.h₀ c.L h' m' ls'.v σ' imm' cs'→cK c ls'→aH imm cs imm' cs'→FR Γ imm' cs' fl f→Q fl {s with heap:=h',toks:=tk})→wpAny (model Γ.prog Γ.w) A (t c) Q E s
noncomputable def cF(Γ:ar)(n:Nat)(σ:St)(f:Addr)(vs:List AV)(kw:List (Str×AV))(r:AV)(σ':St):Prop :=
 ∀ {c A s m ls imm cs vals kwv} {Rq:Result→Shared→Prop},bp Γ c A n→aj Γ c.h₀ c.L s.heap m ls σ imm cs→ao Γ imm (ae cs) vals vs→kwv.map (·.1)=kw.map (·.1)→ao Γ imm (ae cs) (kwv.map (·.2)) (kw.map (·.2)) →
  (∀ h' tk imm' cs' val,aj Γ c.h₀ c.L h' m ls σ' imm' cs'→aH imm cs imm' cs'→VR Γ imm' (ae cs') val r→Rq (.ok (.ret val)) {s with heap:=h',toks:=tk}) →
  codeAny (model Γ.prog Γ.w) A (.call (.ref f) ⟨vals,kwv⟩) Rq s
inductive AK (Γ:ar) (f:Addr) (fi:oo):Prop
 |mk (name qual:Str) (as:List Arg) (ds:List PySem.Expr) (scope:Scope) (dV kV doc pm cdv ct oc:Value) (an od:Option Addr) (osl:Array (Option Value))
  (ho:Γ.K.lookup f=some ⟨oc,od,.func (fnOf name qual {posonlyargs:=[],args:=as,vararg:=none,kwonlyargs:=[],kw_defaults:=[],kwarg:=none,defaults:=ds} fi.body scope dV kV doc pm an cdv ct),osl⟩)
  (hcd:codeIn Γ.K cdv qual=true) (ha:as.map (·.arg)=fi.args) (hs:scope.names=fi.sc) (hk:scope.kind=.function) (hco:scope.isCoroutine=false) (hg:scope.isGenerator=false)
  (hc:∀ x∈scope.names,x.2≠.cell) (hl:∀ x∈fi.args,scope.names.lookup x=some .local) (nd:scope.names.lookup ("__debug__" : Str)=none)
  (hd:(dV=.none∧fi.dflt=[])∨∃ t o items q,dV=.ref t∧Γ.K.lookup t=some o∧o.data=.seq (List.toArray items) q∧∀ imm ρ,ao Γ imm ρ items fi.dflt)
theorem ao.pairs(h:ao Γ imm ρ vs xs):∃ l:List {q:Value×AV // VR Γ imm ρ q.1 q.2},l.map (·.1.1)=vs∧l.map (·.1.2)=xs:=by
 induction h using ao.ind with
 |nil=>exact⟨[],rfl,rfl⟩
 |@cons v x _ _ a g ih=>
  apply ah ih;intro l e1 e2;exact⟨⟨(v,x),a⟩::l,by rw[List.map_cons,e1],by rw[List.map_cons,e2]⟩
theorem LM{kwv:List (Str×Value)}{kw:List (Str×AV)}(e:kwv.map (·.1)=kw.map (·.1))(h:ao Γ imm ρ (kwv.map (·.2)) (kw.map (·.2))) :
  ∃ l:List (Str×{q:Value×AV // VR Γ imm ρ q.1 q.2}),l.map (fun q=>(q.1,q.2.1.1))=kwv∧l.map (fun q=>(q.1,q.2.1.2))=kw:=by
 induction kw generalizing kwv with
 |nil=>exact⟨[],(List.map_eq_nil_iff.mp e).symm,rfl⟩
 |cons y kw ih=>
  apply ir (List.map_eq_cons_iff.mp e);intro p r e0 e1 e2;subst e0;apply ir h.inv;intro _ _ q a g;injection q with q1 q2;subst q1 q2;apply ah (ih e2 g);intro l i1 i2;replace e1:p.1=y.1:=e1;refine⟨(y.1,⟨(p.2,y.2),a⟩)::l,?_,?_⟩
  ·show (y.1,p.2)::List.map _ l=p::r
   rw[i1,←e1]
  ·show y::List.map _ l=y::kw
   rw[i2]
theorem Pp{α:Type}{names:List Str}{dflt pos:List α}{kw b:List (Str×α)}(h:iY names dflt pos kw=some b):∃ sl,b=eW sl names:=by
 unfold iY at h;apply bJ h;clear h;intro _ h;apply bJ h;clear h;intro _ h;apply bJ h;clear h;intro _ h;apply bJ h;clear h;intro _ h;exact⟨_,(osI h).symm⟩
set_option smartUnfolding false in
theorem IR{α:Type}{sl:List (Str×α)}{ns:List Str}:∀ q∈eW sl ns,q.1∈ns:=by
 induction ns with
 |nil=>intro q h;cases h
 |cons x r ih=>
  intro q h;replace h:q∈Option.rec (motive:=fun U=>List (Str×α)) (eW sl r) (fun v=>(x,v)::eW sl r) (lk x sl):=h;cases e:lk x sl with
  |none=>rw[e] at h;exact .tail _ (ih q h)
  |some v=>
   rw[e] at h;cases h with
   |head=>exact .head _
   |tail _ h=>exact .tail _ (ih q h)
theorem Tb{kwv:List (Str×Value)}{kw:List (Str×AV)}(hd:ao Γ imm ρ dv dx)(hv:ao Γ imm ρ vals xs)
  (hk:kwv.map (·.1)=kw.map (·.1)) (hk2:ao Γ imm ρ (kwv.map (·.2)) (kw.map (·.2))) (h:iY names dx xs kw=some ls) :
  ∃ binds,iY names dv vals kwv=some binds∧(∀ x v,lk x ls=some v→∃ val,binds.reverse.lookup x=some val∧VR Γ imm ρ val v)∧(∀ q∈binds,q.1∈names)∧∀ x v,lk x ls=some v→x∈names:=by
 apply ah hd.pairs;intro d e0 e01;subst e0;subst e01;apply ah hv.pairs;intro a e0 e01;subst e0;subst e01;apply ah (LM hk hk2);intro k e0 e01;subst e0;subst e01;have e1:=IK (fun q:{q:Value×AV // VR Γ imm ρ q.1 q.2}=>q.1.1) names d a k;have e2:=IK (fun q:{q:Value×AV // VR Γ imm ρ q.1 q.2}=>q.1.2) names d a k;rw[h] at e2;apply ah (Option.map_eq_some_iff.mp e2.symm);intro b hb e0;subst e0;rw[hb] at e1;apply bx (Pp hb);intro sl e0;subst e0;refine⟨_,e1,fun x v hx=>?_,fun q hq=>?_,fun x v hx=>?_⟩
 ·rw[oA (fun q:{q:Value×AV // VR Γ imm ρ q.1 q.2}=>q.1.2)] at hx
  apply ah (Option.map_eq_some_iff.mp hx);intro y hy e0;subst e0;refine⟨y.1.1,?_,y.2⟩;have:=Oz hy;rw[←jm] at this ⊢;rw[←List.map_reverse,oA (fun q:{q:Value×AV // VR Γ imm ρ q.1 q.2}=>q.1.1),this];rfl
 ·apply ah (dm hq);intro q' h1 e0;subst e0
  exact IR q' h1
 ·have:=jv hx
  apply ah (dm this);intro q' h1 e;have h2:=IR q' h1;(injection e with e1 e2;exact e1▸h2)
theorem bu.take(n:Nat){c:List CC}{x:List aw}(h:bu Γ imm ρ c x):bu Γ imm ρ (c.take n) (x.take n):=by
 induction h generalizing n with
 |nil=>rw[List.take_nil,List.take_nil];exact .nil
 |cons h _ ih=>
  cases n with
  |zero=>exact .nil
  |succ n=>exact .cons h (ih n)
theorem CR.few(hr:∀ k a,k<n→ak ρ k=some a→ak ρ' k=some a)(o:py n x=true)(h:CR Γ imm ρ c x):CR Γ imm ρ' c x :=
 CR.casesOn (motive:=fun c x U=>py n x=true→CR Γ imm ρ' c x) h (fun h k o=>.list (h.few hr o) k) (fun h g k U=>.rows h g k) (fun h g k o=>.inst (h.few hr o) g k) (fun h U=>.any h) o
set_option smartUnfolding false in
theorem IZ(o:kD n (x::r)=true):py n x=true∧kD n r=true:=by
 replace o:Bool.rec (motive:=fun U=>Bool) false (kD n r) (py n x)=true:=o;cases q:py n x with
 |true=>rw[q] at o;exact⟨rfl,o⟩
 |false=>rw[q] at o;injection o
theorem bu.few(hr:∀ k a,k<n→ak ρ k=some a→ak ρ' k=some a)(o:kD n x=true)(h:bu Γ imm ρ c x):bu Γ imm ρ' c x:=by
 revert o;induction h with
 |nil=>exact fun U=>.nil
 |cons h _ ih=>exact fun o=>.cons (h.few hr (IZ o).1) (ih (IZ o).2)
theorem rho_take(n:Nat)(cs:List CC):ae (cs.take n)=(ae cs).take n:=by simp [ae,List.map_take]
theorem zw{α:Type}{l:List α}{k n:Nat}{a:α}(hk:k<n)(h:ak l k=some a):ak (l.take n) k=some a:=by
 rw[dH] at h ⊢;rw[List.getElem?_take,if_pos hk];exact h
theorem P1(n:Nat)(cs:List CC):∀ q∈aL (cs.take n),q∈aL cs:=fun q h=>by
 apply ah (List.mem_flatMap.mp h);intro c h1 h2;exact List.mem_flatMap.mpr ⟨c,List.mem_of_mem_take h1,h2⟩
theorem My(n:Nat)(cs:List CC):(aL (cs.take n)).Sublist (aL cs):=by
 have:aL cs=aL (cs.take n)++aL (cs.drop n):=by
  unfold aL;rw[←List.flatMap_append,List.take_append_drop]
 rw[this];exact List.sublist_append_left _ _
theorem aj.take{h₀ h:Heap}{L:Addr}{m:Str→Option Value}{ls:List (Str×AV)}{σ:St}{imm:List (Addr×Obj)}{cs:List CC}(R:aj Γ h₀ L h m ls σ imm cs)(n:Nat)(ho:kD n (aP n σ)=true)
  (hl:∀ x v,lk x ls=some v→∃ val,m x=some val∧VR Γ imm (ae (cs.take n)) val v):aj Γ h₀ L h m ls (aP n σ) imm (cs.take n):=by
 rw[mB] at ho ⊢;refine⟨R.F,fun q hq=>R.N q ?_,?_,?_,hl⟩
 ·rcases ey hq with a|a
  ·exact bq _ a
  ·exact cS _ (P1 n cs q a)
 ·exact R.nd.sublist (((List.Sublist.refl _).append (My n cs)).map _)
 ·rw[rho_take]
  exact(R.C.take n).few (fun k a hk h=>zw hk h) ho
end
end
section
section
variable {Γ:ar}{β:Bd}
theorem aj.caller(R:aj Γ h₀ L h m ls σ imm cs)(R':aj Γ g L' h' m' ls' σ' imm' cs')(x:aH imm cs imm' cs')
 (F:Fr h₀ L h' m) (N:News h₀ L h' (imm'++aL cs')):aj Γ h₀ L h' m ls σ' imm' cs':=⟨F,N,R'.nd,R'.C,fun y v hy=>by
 apply ah (R.l y v hy);intro val a b;exact⟨val,a,b.ext x⟩⟩
theorem P6(n:Nat)(v:AV)(σ:St):iM n v σ=σ∨(iM n v σ=aP n σ∧fH n v=true∧kD n (aP n σ)=true):=by
 unfold iM;cases Nat.beq (aA σ) n with
 |true=>exact .inl rfl
 |false=>
  cases h1:fH n v with
  |false=>exact .inl rfl
  |true=>
   cases h2:kD n (aP n σ) with
   |false=>exact .inl (by simp [h2])
   |true=>exact .inr ⟨by simp [h2],rfl,rfl⟩
theorem aH.rho_take(x:aH imm cs imm' cs'):ae (cs'.take cs.length)=ae cs:=by
 apply List.ext_getElem?;intro i;rw[Mine.rho_take];have hl:(ae cs).length=cs.length:=List.length_map ..
 by_cases hi:i<cs.length
 ·have h1:ak (ae cs) i=some ((ae cs)[i]'(by lia)):=by rw[dH];simp [hl,hi]
  have:=x.r _ _ h1;rw[dH] at h1 this;rw[List.getElem?_take,if_pos hi,this,h1]
 ·rw[List.getElem?_take,if_neg hi]
  symm;rw[List.getElem?_eq_none_iff];lia
theorem PF{A₀ A:Around}{s:Shared}{K:Frag}
  {R:Result→Shared→Prop}
  (B:Below A₀ base outer h₀) (F:Fr h₀ L s.heap m) (N:News h₀ L s.heap news) (X:K.In s.heap) (hlim:h₀.NoLimit) (hA:A.frames=some outer)
  (ho:K.lookup f=some ⟨oc,od,.func (fnOf name qual params body scope dV kV doc pm an cdv ct),osl⟩) (hcd:codeIn K cdv qual=true) (hroom:A.depth<recursionLimit)
  (hbind:BindsTo s (fnOf name qual params body scope dV kV doc pm an cdv ct) args binds) (hloc:∀ y∈binds,scope.names.lookup y.1=some .local)
  (h:∀ g L' h₁,Fr h₀ L g m→Fr g L' h₁ (fun y=>binds.reverse.lookup y)→News g L' h₁ news→Below A base outer g→h₀.StaysIn g →
   wpAny (model prog w) (A.deeper (envOf qual scope L' f cdv)) (execs body (envOf qual scope L' f cdv))
    (fun fl s'=>LeaveK h₀ L m g R (match fl with|.ret v=>v|_=>.none) s')
    (fun e s'=>wpAny (model prog w) (A.deeper (envOf qual scope L' f cdv)) (leaving (envOf qual scope L' f cdv) e) (fun U s''=>R (.error e) s'') (fun e' s''=>R (.error e') s'') s')
    {s with heap:=h₁,toks:=s.toks+binds.length})
  (hco:scope.isCoroutine=false) (hgen:scope.isGenerator=false) (hk:scope.kind=.function)
  (hcell:∀ x∈scope.names,x.2≠.cell):codeAny (model prog w) A (.call (.ref f) args) R s:=by
 refine codeAny_call_def (fd:=fnOf name qual params body scope dV kV doc pm an cdv ct) (body:=body) (binds:=binds) hroom (X _ _ ho) rfl (hlim.keeps F.keep) (codeRec_of X hcd) rfl hbind hcell hloc (fun h₁ hns hk₁=>?_) hco hgen hk;have nm:∀ b o,h₀.get? b=some o→b ∉ news.map (·.1):=fun b o e q=>by
  apply ah (dm q);intro p hp e0;subst e0;rw[(N p hp).2.2] at e;cases e
 have st:h₀.StaysIn (hideAll s.heap (news.map (·.1))):=fun b o e=>hideAll_get _ (F.keep b o e) (nm b o e);apply dD F.ns;intro oL es ep hL hLd hLk hLf;have nL:L ∉ news.map (·.1):=fun q=>by
  apply ah (dm q);intro p hp e;exact(N p hp).2.1 e
 have hLg:=hideAll_get (news.map (·.1)) hL nL;have B₂:Below A base outer (hideAll s.heap (news.map (·.1))):=⟨hA,fun b o e=>st b o (B.stays b o e),B.frames.of_keeps fun b o e U=>⟨o,st b o e,rfl⟩⟩;refine wpAny_mono (h _ s.heap.objs.size h₁ ⟨⟨oL,es,ep,hLg,hLd,hLk,hLf⟩,st,F.above⟩ ⟨hns,fun b o e=>hk₁ b o (of_hideAll _ e),Nat.le_of_eq (hideAll_size _ _)⟩
  (fun p hp=>⟨hk₁ _ _ (N p hp).1,Nat.ne_of_lt (Heap.lt_size (N p hp).1),hideAll_none _ (List.mem_map_of_mem hp)⟩) B₂ st) (fun fl s' hl=>?_) fun U U y=>y
 apply eZ hl;intro L' m' news' F' N' k;refine k ⟨⟨oL,es,ep,F'.keep L oL hLg,hLd,hLk,hLf⟩,fun b o e=>F'.keep b o (st b o e),F.above⟩ fun p hp=>⟨(N' p hp).1,fun q=>?_,?_⟩
 ·have:=(N' p hp).2.2;rw[q,hLg] at this;cases this
 ·cases q:h₀.get? p.1 with
  |none=>rfl
  |some o=>have:=(N' p hp).2.2;rw[st _ _ q] at this;cases this
theorem sG(hf:AK Γ f fi)(hb:iY fi.args fi.dflt vs kw=some ls)(hn:n'+5≤n)(hr:fl=.ret r∨(fl=.next∧r=.none))
  (hx:bt Γ n' (fun c=>execs fi.body c.env) ⟨ls,fi.sc⟩ σ fl ls' σ'):cF Γ n σ f vs kw r (iM (aA σ) r σ'):=by
 intro c A s m lsC imm cs vals kwv Rq C Rp hv hk hk2 k;obtain⟨name,qual,as,ds,scope,dV,kV,doc,pm,cdv,ct,oc,an,od,osl,ho,hcd,ha,hs,hkd,hco,hg,hc,hl,nd,hd⟩:=hf;apply bx C.B;intro A₀ B;have X:Γ.K.In s.heap:=C.X.keeps Rp.F.keep;have hdv:∃ items,((dV=.none∧items=[])∨∃ t o q,dV=.ref t∧s.heap.get? t=some o∧o.data=.seq (List.toArray items) q)∧ao Γ imm (ae cs) items fi.dflt:=by
  rcases hd with ⟨a,b⟩|⟨t,o,items,q,a,b,d,e⟩
  ·exact⟨[],.inl ⟨a,rfl⟩,by rw[b];exact .nil⟩
  ·exact⟨items,.inr ⟨t,o,q,a,X _ _ b,d⟩,e _ _⟩
 apply ah hdv;clear hdv;intro items hdv hdr;apply sg (Tb hdr hv hk hk2 hb);intro binds b1 b2 b3 b4
 suffices go:∀ g L' h₁,Fr c.h₀ c.L g m→Fr g L' h₁ (fun y=>binds.reverse.lookup y)→News g L' h₁ (imm++aL cs)→Below A c.base c.fr g→c.h₀.StaysIn g →
   wpAny (model Γ.prog Γ.w) (A.deeper (envOf qual scope L' f cdv)) (execs fi.body (envOf qual scope L' f cdv))
    (fun fl s'=>LeaveK c.h₀ c.L m g Rq (match fl with|.ret v=>v|_=>.none) s')
    (fun e s'=>wpAny (model Γ.prog Γ.w) (A.deeper (envOf qual scope L' f cdv)) (leaving (envOf qual scope L' f cdv) e) (fun U s''=>Rq (.error e) s'') (fun e' s''=>Rq (.error e') s'') s')
    {s with heap:=h₁,toks:=s.toks+binds.length} by
  cases hu:c.up with
  |none=>
   have hfr:c.fr=envOf c.cn c.cs c.L c.a c.cd::c.outer:=by unfold Cx.fr Cx.env;rw[hu]
   have cfr:=C.fr;rw[hfr] at go cfr;exact call_K (news:=imm++aL cs) (binds:=binds) B Rp.F Rp.N X C.T.nolimit cfr ho hcd (by have:=C.dp;show A.depth<1000;lia) (CH (as:=as) (ds:=ds) rfl hdv (by rw[ha];exact b1)) (fun y hy=>hl _ (b3 _ hy)) go (hck:=C.k) (hco:=hco) (hgen:=hg) (hk:=hkd) (hcell:=hc)
  |some fl0=>
   have hfr:c.fr=c.outer:=by unfold Cx.fr;rw[hu]
   have cfr:=C.fr;rw[hfr] at go cfr;exact PF (news:=imm++aL cs) (binds:=binds) B Rp.F Rp.N X C.T.nolimit cfr ho hcd (by have:=C.dp;show A.depth<1000;lia) (CH (as:=as) (ds:=ds) rfl hdv (by rw[ha];exact b1)) (fun y hy=>hl _ (b3 _ hy)) go hco hg hkd hc
 intro g L' h₁ hF hF' hN hB hst;have C':bp Γ ⟨c.base,g,c.fr,L',f,qual,scope,cdv,none⟩ (A.deeper (envOf qual scope L' f cdv)) n':=by
  refine⟨⟨A,hB⟩,C.X.keeps hst,C.T.keeps hst,hkd,?_,C.hd,?_,?_⟩
  ·show Option.map _ A.frames=_
   rw[C.fr];rfl
  ·have:=C.dp;show A.depth+1+n'≤990;lia
  ·have:=C.un;show A.units+3+4*n'≤9800;lia
 have l':cK ⟨c.base,g,c.fr,L',f,qual,scope,cdv,none⟩ ⟨ls,fi.sc⟩:=⟨hs.symm,fun x v hx=>hl _ (b4 x v hx),nd⟩;refine hx C' l' (s:={s with heap:=h₁,toks:=s.toks+binds.length}) (m:=fun y=>binds.reverse.lookup y) (imm:=imm) (cs:=cs) ⟨hF',hN,Rp.nd,Rp.C,b2⟩ ?_;intro h' tk m' imm' cs' fl' R' _ x' hfl;have hval:VR Γ imm' (ae cs') (match (generalizing:=false) fl' with|.ret v=>v|_=>.none) r:=by
  rcases hr with rfl|⟨rfl,rfl⟩
  ·obtain⟨_,e0,h⟩:=FR.inv hfl;clear hfl;subst e0;exact h
  ·(obtain e:_=_:=FR.inv hfl;subst e);exact .none
 refine leaveK_ R'.F R'.N fun F N=>?_;have Rc:=Rp.caller R' x' F N;rcases P6 (aA σ) r σ' with e|⟨e,o1,o2⟩
 ·rw[e] at k
  exact k h' tk imm' cs' _ Rc x' hval
 ·rw[e] at k
  have hlen:aA σ=cs.length:=by rw[b7,Rp.C.len]
  have hrho:=x'.rho_take;rw[hlen] at o1 o2 k;refine k h' tk imm' (cs'.take cs.length) _ (Rc.take _ o2 fun y v hy=>?_) ⟨x'.i,fun q a hq=>by rw[hrho];exact hq⟩ ?_
  ·apply ah (Rp.l y v hy);intro val q1 q2
   exact⟨val,q1,by rw[hrho];exact q2.mono x'.i fun U U h=>h⟩
  ·exact hval.few (fun k a hk h=>by rw[Mine.rho_take];exact zw hk h) o1
end
end
section
section
variable {Γ:ar}{β:Bd}{Y:Pi}
noncomputable def vF(Γ:ar)(fv:AV):Prop:=∀ {h:Heap} {imm:List (Addr×Obj)} {ρ:List Addr} {fval:Value},VR Γ imm ρ fval fv→Γ.K.In h→(∀ q∈imm,h.get? q.1=some q.2) →
 ∃ k,(k=Keeper.frame∨k=Keeper.machine∨k=Keeper.boundFrame)∧Looks (model Γ.prog Γ.w) h (keeperOf fval) k
noncomputable def jp(Γ:ar)(n:Nat)(σ:St)(fv:AV)(vs:List AV)(kw:List (Str×AV))(r:AV)(σ':St):Prop :=
 ∀ {c A s m ls imm cs fval vals kwv} {Q E:Value→Shared→Prop},bp Γ c A n→aj Γ c.h₀ c.L s.heap m ls σ imm cs→VR Γ imm (ae cs) fval fv→ao Γ imm (ae cs) vals vs→kwv.map (·.1)=kw.map (·.1)→ao Γ imm (ae cs) (kwv.map (·.2)) (kw.map (·.2)) →
  (∀ h' tk imm' cs' val,aj Γ c.h₀ c.L h' m ls σ' imm' cs'→aH imm cs imm' cs'→VR Γ imm' (ae cs') val r→Q val {s with heap:=h',toks:=tk}) →
  wpAny (model Γ.prog Γ.w) A (call fval vals kwv) Q E s
theorem bp.le(h:n'≤n)(C:bp Γ c A n):bp Γ c A n':=⟨C.B,C.X,C.T,C.k,C.fr,C.hd,by have:=C.dp;lia,by have:=C.un;lia⟩
set_option tactic.hygienic true in
theorem FP(h:fnIn Γ.K f=true):keepIn Γ.K (.ref f)=true:=by
 unfold fnIn at h;unfold keepIn
 split at h
 ·rename_i e
  have e':List.lookup f Γ.K=_:=e;simp only [e']
 ·injection h
set_option tactic.hygienic true in
theorem Tp(h:makesIn Γ.K C=true):keepIn Γ.K (.ref C)=true:=by
 unfold makesIn at h;unfold keepIn
 split at h
 ·rename_i e
  have e':List.lookup C Γ.K=_:=e;simp only [e'];simp only [Bool.and_eq_true] at h;exact h.1.2
 ·injection h
theorem cF.le(h:n'≤n)(H:cF Γ n' σ f vs kw r σ'):cF Γ n σ f vs kw r σ':=by
 intro c A s m ls imm cs vals kwv Rq C;exact H (C.le h)
theorem rx(a b:List CC):ae (a++b)=ae a++ae b:=List.map_append ..
theorem nG(a b:List CC):aL (a++b)=aL a++aL b:=List.flatMap_append ..
theorem z9{α:Type}(l:List α)(a:α):ak (l++[a]) l.length=some a:=by rw[dH];simp
theorem JT(h:Ch σ σ1 D=some (r,σ')){cs cs2:List CC}(hlen:aA σ=cs.length)
  (R2:aj Γ h₀ L g m ls σ1 imm2 cs2) (x3:aH imm cs imm2 cs2) (at2:ak (ae cs2) (aA σ)=some x) (hl:∀ y v,lk y ls=some v→∃ val,m y=some val∧VR Γ imm (ae cs) val v) :
  ∃ imm' cs',aj Γ h₀ L g m ls σ' imm' cs'∧aH imm cs imm' cs'∧VR Γ imm' (ae cs') (.ref x) r:=by
 apply b5 h;clear h;intro D' fs e1 h;apply bJ h;clear h;intro e2 h;apply bJ h;clear h;intro e3 h;apply bJ h;clear h;intro e4 h;apply bJ h;clear h;intro e5 h;(apply j2 h;clear h;rintro rfl rfl);replace e2:=bX e2;replace e3:=bX e3;subst e2;apply dD (R2.C.cell at2 (qM e1));intro d pre post e0 l e6 cr;subst e0;apply nu cr.inst_inv;intro b d2 es n' e0 hfr hp hcl;subst e0;replace e6:b=x:=e6;subst e6;have hpost:post=[]:=by
  have:=R2.C.len;rw[b7] at e3;simp at this;apply List.eq_nil_of_length_eq_zero;lia
 subst hpost;rw[hlen] at l e4 e5 ⊢;have tk1:(pre++[CC.inst b D' d2 es n']).take cs.length=pre:=by rw[←l];simp
 have hrho:ae pre=ae cs:=by rw[←tk1];exact x3.rho_take
 have fewer:∀ k a,k<cs.length→ak (ae (pre++[CC.inst b D' d2 es n'])) k=some a→ak (ae pre) k=some a:=fun k a hk h=>by
  rw[←tk1,Mine.rho_take];exact zw hk h
 have im:∀ q∈imm2,q∈(b,instObj D' d2)::(d2,dictOf es n')::imm2:=fun q h=>.tail _ (.tail _ h);have hC:=(R2.C.take cs.length);rw[tk1] at hC;rw[mB] at e5 ⊢;have hC2:=hC.few fewer e5;refine⟨(b,instObj D' d2)::(d2,dictOf es n')::imm2,pre,⟨R2.F,fun q hq=>R2.N q ?_,?_,hC2.mono im fun U U h=>h,fun y v hy'=>?_⟩,⟨fun q h=>im q (x3.i q h),fun k a h=>by rw[hrho];exact h⟩,.obj (.head _) (.tail _ (.head _)) ((hfr.few fewer e4).mono im fun U U h=>h) hp hcl⟩
 ·rw[nG]
  rcases bU hq with rfl|hq
  ·simp [aL,CC.objs]
  ·rcases bU hq with rfl|hq
   ·simp [aL,CC.objs]
   ·rcases ey hq with a|a
    ·exact bq _ a
    ·exact cS _ (bq _ a)
 ·have nd:=R2.nd
  rw[nG,←aX,List.map_append] at nd;have pm:((((b,instObj D' d2)::(d2,dictOf es n')::imm2)++aL pre).map Prod.fst).Perm ((imm2++aL pre).map Prod.fst++(aL [CC.inst b D' d2 es n']).map Prod.fst):=by
   show ([b,d2]++(imm2++aL pre).map Prod.fst).Perm ((imm2++aL pre).map Prod.fst++[b,d2]);exact List.perm_append_comm
  exact pm.nodup_iff.mpr nd
 ·apply ah (hl y v hy');intro val a q
  exact⟨val,a,by rw[hrho];exact q.mono (fun q h=>im q (x3.i q h)) fun U U h=>h⟩
theorem aj.newC(R:aj Γ h₀ L h m ls σ imm cs)(F':Fr h₀ L h' m)(N':News h₀ L h' ((x,instObj D dx)::(dx,dictOf [] 0)::(imm++aL cs)))
  (hlt:∀ q∈imm++aL cs,q.1<dx) (hdx:dx<x) (hc:iH Γ D):aj Γ h₀ L h' m ls (σ++[.inst D []]) imm (cs++[.inst x D dx [] 0]):=by
 have mono1:∀ k a,ak (ae cs) k=some a→ak (ae (cs++[.inst x D dx [] 0])) k=some a:=fun k a h=>by rw[rx];exact Bg h
 refine⟨F',fun q hq=>N' q ?_,?_,(R.C.mono (fun U h=>h) mono1).snoc (.inst .nil (fun U h=>(nomatch h)) hc),fun y v hy'=>?_⟩
 ·rw[nG,←aX] at hq
  rcases ey hq with a|a
  ·exact .tail _ (.tail _ a)
  ·replace a:q∈[(x,instObj D dx),(dx,dictOf [] 0)]:=by simpa [aL,CC.objs] using a
   rcases bU a with rfl|a
   ·exact .head _
   ·rcases bU a with rfl|a
    ·exact .tail _ (.head _)
    ·cases a
 ·rw[nG,←aX,List.map_append]
  refine List.nodup_append.mpr ⟨R.nd,?_,?_⟩
  ·show (([x,dx]:List Addr)).Nodup
   exact List.nodup_cons.mpr ⟨fun q=>Nat.ne_of_gt hdx (cH q),List.nodup_cons.mpr ⟨fun q=>(nomatch q),.nil⟩⟩
  ·intro a ha b hb
   apply ah (dm ha);intro q hq e0;subst e0;have:=hlt q hq;replace hb:b∈([x,dx]:List Addr):=by simpa [aL,CC.objs] using hb
   rcases bU hb with rfl|hb
   ·exact Nat.ne_of_lt (Nat.lt_trans this hdx)
   ·rcases bU hb with rfl|hb
    ·exact Nat.ne_of_lt this
    ·cases hb
 ·apply ah (R.l y v hy');intro val a b
  exact⟨val,a,b.mono (fun U h=>h) mono1⟩
section
variable {n:Nat}{R:aR}(hy:∀ C c,Y.ci C=some c→ec Γ C c)(hcf:∀ {σ f vs kw r σ'},R.cf σ f vs kw=some (r,σ')→fnIn Γ.K f=true∧cF Γ n σ f vs kw r σ')
include hcf
theorem Pb(ok:ec Γ D ci)(h2:ci.init=some f)(h:Ft R σ D vs kw ci f=some (r,σ')):jp Γ (n+3) σ (.cls D) vs kw r σ':=by
 apply b5 h;clear h;intro r0 σ1 h3 h;apply bJ h;clear h;intro h4 h;apply d5 (ok.init f h2);intro i1 i2 i3;apply aN (hcf h3);intro hf H;intro c A s m ls imm cs fval vals kwv Q E C Rp hv ha hk hk2 k;(obtain e:_=_:=VR.inv hv;subst e);refine wpAny_call (make_K Rp.F Rp.N (C.X.keeps Rp.F.keep) i3 i1 i2 ?_);intro x dx h' F' N' hlt hdx;have C':bp Γ c (A.under (.builtin "type.__call__" ⟨.ref D::vals,kwv⟩)) n:=⟨C.B,C.X,C.T,C.k,C.fr,C.hd,(by have:=C.dp;show A.depth+1+n≤990;lia),(by have:=C.un;show A.units+1+4*n≤9800;lia)⟩;have mono1:∀ k a,ak (ae cs) k=some a→ak (ae (cs++[.inst x D dx [] 0])) k=some a:=fun k a h=>by rw[rx];exact Bg h
 have mono0:∀ q∈imm,q∈imm:=fun U h=>h;have hlen:aA σ=cs.length:=by rw[b7,Rp.C.len]
 have selfAt:ak (ae (cs++[.inst x D dx [] 0])) (aA σ)=some x:=by rw[rx,hlen];have:=z9 (ae cs) x;rwa [show (ae cs).length=cs.length from List.length_map ..] at this
 refine H C' (s:={s with heap:=h'}) (Rp.newC F' N' hlt hdx ok.cls) (.cons (.cell selfAt) (ha.mono mono0 mono1)) hk (hk2.mono mono0 mono1) ?_;intro h2 tk imm2 cs2 val R2 x2 q2;have x3:aH imm cs imm2 cs2:=⟨x2.i,fun k a h=>x2.r k a (mono1 k a h)⟩;have at2:=x2.r _ _ selfAt;refine⟨by induction r0 using AV.casesOn<;>first|(injection h4;done)|((obtain e:_=_:=VR.inv q2;subst e);rfl),?_⟩;cases hfz:ci.frozen with
 |false=>
  rw[hfz] at h;(apply j2 h;clear h;rintro rfl rfl);exact k h2 tk imm2 cs2 _ R2 x3 (.cell at2)
 |true=>
  rw[hfz] at h;apply ir (JT h hlen R2 x3 at2 Rp.l);intro imm' cs' R' x' q';exact k h2 tk imm' cs' _ R' x' q'
include hy
theorem AL(hbf:∀ {σ v vs r σ'},bf Y σ v vs=some (r,σ')→vF Γ (.bi v)∧jp Γ (n+3) σ (.bi v) vs [] r σ')
  (h:nC Y R σ fv vs kw=some (r,σ')):vF Γ fv∧jp Γ (n+3) σ fv vs kw r σ'∧∀ f self,fv=.meth f self→fnIn Γ.K f=true∧cF Γ (n+3) σ f (self::vs) kw r σ':=by
 induction fv using AV.casesOn with
 |fn f=>
  apply aN (hcf h);intro hf H;refine⟨fun hv X U=>?_,fun C Rp hv ha hk hk2 k=>?_,nofun⟩
  ·(obtain e:_=_:=VR.inv hv;subst e)
   exact keeps_K (FP hf) _ X
  ·(obtain e:_=_:=VR.inv hv;subst e)
   exact wpAny_call (H (C.le (by lia)) Rp ha hk hk2 k)
 |meth f self=>
  apply aN (hcf h);intro hf H;refine⟨fun hv X hi=>?_,fun C Rp hv ha hk hk2 k=>?_,fun f' self' e=>by (injection e with e1 e2;subst e1;subst e2);exact⟨hf,H.le (by lia)⟩⟩
  ·obtain⟨_,_,e0,hm,hs⟩:=VR.inv hv;clear hv;subst e0;exact keeps_M hf _ ⟨hi _ hm,X⟩
  ·obtain⟨_,_,e0,hm,hs⟩:=VR.inv hv;clear hv;subst e0
   exact call_meth Rp.N (bq _ hm) (H (C.le (by lia)) Rp (.cons hs ha) hk hk2 k)
 |cls D=>
  apply aI (show F9 Y R σ D vs kw=some (r,σ') from h);clear h;intro ci h1 h;apply aI h;clear h;intro f h2 h;have ok:=hy _ _ h1;refine⟨fun hv X U=>?_,Pb hcf ok h2 h,nofun⟩;(obtain e:_=_:=VR.inv hv;subst e);exact keeps_K (Tp (ok.init f h2).2.2) _ X
 |bi v=>
  apply bJ (show Gp Y σ v vs kw=some (r,σ') from h);clear h;intro h1 h;induction kw using oL with
  |cons=>injection h1
  |nil=>exact⟨(hbf h).1,(hbf h).2,nofun⟩
 |_=>injection h
end
end
end
section
section
variable {Γ:ar}{β:Bd}{Y:Pi}
theorem Ew(pos:Pos)(ks:List Keyword)(c:Cx):backToKw pos (keywordEach ks c.env)=ks.map fun k=>(k.arg,do let v ←eval k.value c.env;standAt pos;pure v):=by
 induction ks with
 |nil=>rfl
 |cons k r ih=>
  have e:backToKw pos (keywordEach (k::r) c.env)=(k.arg,do let v ←eval k.value c.env;standAt pos;pure v)::backToKw pos (keywordEach r c.env):=by cases k;rfl
  rw[e,ih];rfl
theorem xJ(I:bW Γ n R)(h1:R.evs ls σ as=some (vs,σ1))(h2:R.evk ls σ1 ks=some (kw,σ2))
  {c A s m imm cs} {Q E:Value→Shared→Prop} (C:bp Γ c A n) (l:cK c ls) (Rp:aj Γ c.h₀ c.L s.heap m ls.v σ imm cs)
  (hkeep:∀ h,Γ.K.In h→(∀ q∈imm,h.get? q.1=some q.2)→∃ k,(k=Keeper.frame∨k=Keeper.machine∨k=Keeper.boundFrame)∧Looks (model Γ.prog Γ.w) h (keeperOf f) k)
  (k:∀ h' tk imm' cs' vals kwv,aj Γ c.h₀ c.L h' m ls.v σ2 imm' cs'→aH imm cs imm' cs'→ao Γ imm' (ae cs') vals vs→kwv.map (·.1)=kw.map (·.1)→ao Γ imm' (ae cs') (kwv.map (·.2)) (kw.map (·.2))→wpAny (model Γ.prog Γ.w) A (call f (first++vals) kwv) Q E {s with heap:=h',toks:=tk}) :
  wpAny (model Γ.prog Γ.w) A (callWith pos f first (backTo pos (starEach as c.env)) (backToKw pos (keywordEach ks c.env))) Q E s:=by
 apply aN (I.evs h1);intro n1 g1;apply aN (I.evk h2);intro n2 g2;rw[ut pos n1.1,Ew];have hall:((ks.map fun k=>(k.arg,do let v ←eval k.value c.env;standAt pos;pure v)):List (Option Str×Sem Value)).all (·.1.isSome)=true:=by
  rw[List.all_map,List.all_eq_true];intro x hx;have:x.arg∈ks.map (·.arg):=List.mem_map_of_mem hx;rw[n2] at this;apply ah (dm this);intro q _ e;show x.arg.isSome=true;rw[←e];rfl
 have hnone:(((ks.map fun k=>(k.arg,do let v ←eval k.value c.env;standAt pos;pure v)):List (Option Str×Sem Value)).any (·.1.isNone))=false:=by
  rw[List.any_eq_false];intro x hx;have:=aq hall x hx;cases hh:x.1<;>rw[hh] at this<;>simp_all
 have hstar:(lW as c).any (·.1)=false:=by rw[lW,List.any_map];exact List.any_eq_false.mpr fun U U=>(by simp)
 have names:((ks.map fun k=>(k.arg,do let v ←eval k.value c.env;standAt pos;pure v)):List (Option Str×Sem Value)).filterMap (·.1)=kw.map (·.1):=by
  rw[List.filterMap_map];have:ks.filterMap ((fun x=>x.1) ∘ fun k=>(k.arg,(do let v ←eval k.value c.env;standAt pos;pure v:Sem Value)))=(ks.map (·.arg)).filterMap id:=by rw[List.filterMap_map];rfl
  rw[this,n2,List.filterMap_map];induction kw with
  |nil=>rfl
  |cons a r _=>simp
 have trees:((ks.map fun k=>(k.arg,do let v ←eval k.value c.env;standAt pos;pure v)):List (Option Str×Sem Value)).map (·.2)=yO pos ks c:=by rw[List.map_map];rfl
 have fin:∀ {s1:Shared} {i1 c1 vals},s1={s with heap:=s1.heap,toks:=s1.toks}→aj Γ c.h₀ c.L s1.heap m ls.v σ1 i1 c1→aH imm cs i1 c1→ao Γ i1 (ae c1) vals vs →
   wpAny (model Γ.prog Γ.w) A (evalAll (((ks.map fun k=>(k.arg,do let v ←eval k.value c.env;standAt pos;pure v)):List (Option Str×Sem Value)).map (·.2)))
    (fun kv s2=>(Γ.K.In s2.heap∧∀ q∈imm,s2.heap.get? q.1=some q.2)∧wpAny (model Γ.prog Γ.w) A (call f (first++vals) ((((ks.map fun k=>(k.arg,do let v ←eval k.value c.env;standAt pos;pure v)):List (Option Str×Sem Value)).filterMap (·.1)).zip kv)) Q E s2) E s1:=by
  intro s1 i1 c1 vals es R1 x1 q1;rw[trees,names];refine g2 pos C l R1 fun h2 t2 i2 c2 kv R2 x2 q2=>?_;have hl:(kw.map (·.1)).length=kv.length:=by have:=q2.len;simp at this ⊢;lia
  refine⟨⟨C.X.keeps R2.F.keep,fun q hq=>(R2.N q (bq _ (x2.i q (x1.i q hq)))).1⟩,?_⟩;have:=k h2 t2 i2 c2 vals ((kw.map (·.1)).zip kv) R2 (x1.trans x2) (q1.ext x2) (by rw[List.map_fst_zip];lia) (by rw[List.map_snd_zip];exact q2;lia);rw[es];exact this
 refine callWith_of (P:=fun h=>Γ.K.In h∧∀ q∈imm,h.get? q.1=some q.2) (by rw[hstar,hnone];rfl) (fun h hp=>hkeep h hp.1 hp.2) ?_;induction as using oL with
 |nil=>
  have e:vs=[]:=List.eq_nil_of_length_eq_zero n1.2.symm;subst e;refine wpAny_bind (m:=spliced (lW [] c)) (f:=fun U=>evalArgs f true [] (ks.map fun k=>(k.arg,do let v ←eval k.value c.env;standAt pos;pure v))) (g1 C l Rp fun h1 t1 i1 c1 vals R1 x1 q1=>?_);(obtain e:_=_:=ao.inv q1;subst e);exact evalArgs_kw_nil hall (fin (s1:={s with heap:=h1,toks:=t1}) rfl R1 x1 .nil)
 |cons e r=>
  refine evalArgs_kw hall (g1 C l Rp fun h1 t1 i1 c1 vals R1 x1 q1=>?_);exact fin (s1:={s with heap:=h1,toks:=t1}) rfl R1 x1 q1
end
end
section
section
variable {Γ:ar}{β:Bd}{Y:Pi}
structure nt (Γ:ar) (n:Nat) (R:aR):Prop where
 cf:∀ {σ f vs kw r σ'},R.cf σ f vs kw=some (r,σ')→fnIn Γ.K f=true∧cF Γ n σ f vs kw r σ'
 cl:∀ {σ fv vs kw r σ'},R.cl σ fv vs kw=some (r,σ')→vF Γ fv∧jp Γ n σ fv vs kw r σ'∧∀ f self,fv=.meth f self→fnIn Γ.K f=true∧cF Γ n σ f (self::vs) kw r σ'
theorem Cf(I:bW Γ n R)(J:nt Γ n R)
  (h:xV R ls σ x q as ks=some (r,σ')) :
  b9 Γ n (fun c=>eval (.Call (.Name x q) as ks pos) c.env) ls σ r σ':=by
 apply b5 h;clear h;intro fv σ1 h1 h;apply b5 h;clear h;intro vs σ2 h2 h;apply b5 h;clear h;intro kw σ3 h3 h;apply d5 (J.cl h);intro kp cv _;intro c A s m imm cs Q E C l Rp k;refine wpAny_Call_Name_kw (I.ev h1 C l Rp fun hx tx ix cx fval Rx xx qx=>?_);refine xJ I h2 h3 (s:={s with heap:=hx,toks:=tx}) C l Rx (fun h X hi=>kp qx X hi) ?_;intro h' tk imm' cs' vals kwv R' x' v1 v2 v3;exact cv C (s:={s with heap:=h',toks:=tk}) R' (qx.ext x') v1 v2 v3 fun h2 t2 i2 c2 val R2 x2 q2=>k h2 t2 i2 c2 val R2 (xx.trans (x'.trans x2)) q2
theorem Ta{n:Nat}{R:aR}(I:bW Γ n R){ls:ac}{σ σ1:St}{as:List Expr}{vs:List AV}(h1:R.evs ls σ as=some (vs,σ1))
  {c A s m imm cs} {Q E:Value→Shared→Prop} {pos:Pos} {id:String} {first:List Value} (C:bp Γ c A n) (l:cK c ls) (Rp:aj Γ c.h₀ c.L s.heap m ls.v σ imm cs)
  (k:∀ h' tk imm' cs' vals,aj Γ c.h₀ c.L h' m ls.v σ1 imm' cs'→aH imm cs imm' cs'→ao Γ imm' (ae cs') vals vs→wpAny (model Γ.prog Γ.w) A (call (.builtin id) (first++vals) []) Q E {s with heap:=h',toks:=tk}) :
  wpAny (model Γ.prog Γ.w) A (callWith pos (.builtin id) first (backTo pos (starEach as c.env)) []) Q E s:=by
 apply aN (I.evs h1);intro n1 g1;rw[ut pos n1.1];have hstar:(lW as c).any (·.1)=false:=by rw[lW,List.any_map];exact List.any_eq_false.mpr fun U U=>(by simp)
 refine callWith_of (P:=fun U=>True) (by rw[hstar];rfl) (fun h U=>⟨.machine,.inr (.inl rfl),.of_pure rfl⟩) ?_;induction as using oL with
 |nil=>
  have e:vs=[]:=List.eq_nil_of_length_eq_zero n1.2.symm;subst e;refine wpAny_bind (m:=spliced (lW [] c)) (f:=fun U=>evalArgs (.builtin id) true [] []) (g1 C l Rp fun h1 t1 i1 c1 vals R1 x1 q1=>?_);(obtain e:_=_:=ao.inv q1;subst e);exact evalArgs_nil3 ⟨trivial,k h1 t1 i1 c1 [] R1 x1 .nil⟩
 |cons e r=>
  exact evalArgs_plain (g1 C l Rp fun h1 t1 i1 c1 vals R1 x1 q1=>⟨trivial,k h1 t1 i1 c1 vals R1 x1 q1⟩)
noncomputable def sL(Γ:ar)(Y:Pi):Prop :=
 ∀ {σ ov x id},zu Y σ ov x=some id →
  (∀ {c A s m ls imm cs va pl} {n:Nat} {Q:Value×List Value→Shared→Prop} {E:Value→Shared→Prop},bp Γ c A n→aj Γ c.h₀ c.L s.heap m ls σ imm cs→VR Γ imm (ae cs) va ov→Q (.builtin id.id,[va]) s→wpAny (model Γ.prog Γ.w) A (getMethod va x pl) Q E s) ∧
  (∀ {σ vs r σ'},bm Y σ id ov vs=some (r,σ')→∀ {c A s m ls imm cs va vals} {n:Nat} {Q E:Value→Shared→Prop},bp Γ c A n→aj Γ c.h₀ c.L s.heap m ls σ imm cs→VR Γ imm (ae cs) va ov→ao Γ imm (ae cs) vals vs →
   (∀ h' tk imm' cs' val,aj Γ c.h₀ c.L h' m ls σ' imm' cs'→aH imm cs imm' cs'→VR Γ imm' (ae cs') val r→Q val {s with heap:=h',toks:=tk})→wpAny (model Γ.prog Γ.w) A (call (.builtin id.id) (va::vals) []) Q E s)
noncomputable def Gm(Γ:ar)(n:Nat)(ls:ac)(σ1:St)(ov:AV)(x:Str)(as:List Expr)(ks:List Keyword)(pos:Pos)(r:AV)(σ':St):Prop :=
 ∀ {c A s m imm cs va pl} {Q E:Value→Shared→Prop},bp Γ c A n→cK c ls→aj Γ c.h₀ c.L s.heap m ls.v σ1 imm cs→VR Γ imm (ae cs) va ov →
  (∀ h' tk imm' cs' x,aj Γ c.h₀ c.L h' m ls.v σ' imm' cs'→aH imm cs imm' cs'→VR Γ imm' (ae cs') x r→Q x {s with heap:=h',toks:=tk}) →
  wpAny (model Γ.prog Γ.w) A (getMethod va x pl) (fun fx s2=>wpAny (model Γ.prog Γ.w) A (callWith pos fx.1 fx.2 (backTo pos (starEach as c.env)) (backToKw pos (keywordEach ks c.env))) Q E s2) E s
section
variable {n:Nat}{R:aR}{ls:ac}{x:Str}{pos:Pos}{as:List Expr}{ks:List Keyword}{r:AV}
theorem EP(I:bW Γ n R){σ σ1 σ':St}{o:Expr}{apos:Pos}{ov:AV}(h0:(qA o&&Nat.beq apos.endLine pos.line&&Nat.blt (aA as+aA ks+1) 30)=true)(h1:R.ev ls σ o=some (ov,σ1))
  (n1:∀ e∈as,hK e=true) (n2:∀ y∈ks,y.arg.isSome=true) (hm:Gm Γ n ls σ1 ov x as ks pos r σ'):b9 Γ n (fun c=>eval (.Call (.Attribute o x apos) as ks pos) c.env) ls σ r σ':=by
 simp only [Bool.and_eq_true] at h0;obtain⟨⟨g1,g2⟩,g3⟩:=h0;replace g2:=bX g2;replace g3:=df g3;rw[b7,b7] at g3;intro c A s m imm cs Q E C l Rp k;have form:methodCallForm (as.length+ks.length) (backTo pos (starEach as c.env)) (backToKw pos (keywordEach ks c.env))=true:=by
  rw[ut pos n1,Ew];unfold methodCallForm;simp only [Bool.and_eq_true,List.all_map,List.all_eq_true,decide_eq_true_eq];refine⟨⟨fun U U=>rfl,fun y hy=>n2 y hy⟩,?_⟩
  split<;>lia
 show wpAny _ _ (do
  let ov ←attributeBase o x c.env (eval o c.env)
  standAt apos.atName
  methodCall o x apos pos c.env ov (as.length+ks.length) (backTo pos (starEach as c.env)) (backToKw pos (keywordEach ks c.env))) _ _ _
 rw[Gf g1];refine wpAny_bind (I.ev h1 C l Rp fun hx tx ix cx va Rx xx qx=>wpAny_bind (wpAny_standAt ?_));unfold methodCall;rw[form];have hpos:methodCallPos true o c.env apos pos=pure pos:=by
  unfold methodCallPos;rw[if_pos (by simp [g2])]
 refine wpAny_bind (wpAny_holding (wpAny_mono (hm C l (s:={s with heap:=hx,toks:=tx}) Rx qx fun h' tk i' c' v R' x' q'=>k h' tk i' c' v R' (xx.trans x') q') (fun fx s2 h2=>?_) fun U U z=>z));show wpAny _ _ (methodCallPos true o c.env apos pos >>= fun callPos=>callWith callPos fx.1 fx.2 _ _) _ _ _;rw[hpos];exact wpAny_bind (wpAny_pure h2)
theorem NT(h:DW v=true):∃ f self,v=.meth f self:=by induction v using AV.casesOn<;>first|exact⟨_,_,rfl⟩|injection h
theorem Dw(I:bW Γ n R)(J:nt Γ n R){ov:AV}(i1:R.evs ls σ1 as=some (vs,σ2))(i2:R.evk ls σ2 ks=some (kw,σ3))(h:R.cl σ3 (.meth f self) vs kw=some (r,σ'))
  {s:Shared} {Q E:Value→Shared→Prop} (C:bp Γ c A n) (l:cK c ls) (Rx:aj Γ c.h₀ c.L s.heap m ls.v σ1 imm cs)
  (hI:InstAt s.heap b (instObj D d) D (some (dictOf es n'))) (hf:be Γ imm (ae cs) es fs) (hp:∀ q∈fs,findIn Γ.K (.ref D) q.1=some none) (hc:iH Γ D) (z:lk x fs=some (.meth f self))
  (k:∀ h' tk imm' cs' x,aj Γ c.h₀ c.L h' m ls.v σ' imm' cs'→aH imm cs imm' cs'→VR Γ imm' (ae cs') x r→Q x {s with heap:=h',toks:=tk}) :
  wpAny (model Γ.prog Γ.w) A (getMethod (.ref b) x pl) (fun fx s2=>wpAny (model Γ.prog Γ.w) A (callWith pos fx.1 fx.2 (backTo pos (starEach as c.env)) (backToKw pos (keywordEach ks c.env))) Q E s2) E s:=by
 apply d5 (J.cl h);intro kp cv cm;have g:=hf.get (x:=x);rw[z] at g;apply ah g;intro val g1 g2;have pg:=plainGet_of hc.ga;refine method_usual (C.X.keeps Rx.F.keep) hI pg.1 pg.2 (hp _ (jv z)) rfl ?_;refine get_own Rx.F C.X hI hc.ga hc.hd (hp _ (jv z)) rfl g1 (yf g2 rfl) ?_;refine xJ I i1 i2 C l (s:={s with toks:=s.toks+1}) Rx (fun h X hi=>kp g2 X hi) ?_;intro h' tk imm' cs' vals kwv R' x' v1 v2 v3;exact cv C (s:={s with heap:=h',toks:=tk}) R' (g2.ext x') v1 v2 v3 fun h2 t2 i2 c2 val R2 x2 q2=>k h2 t2 i2 c2 val R2 (x'.trans x2) q2
theorem K6(hy:∀ C c,Y.ci C=some c→ec Γ C c)(I:bW Γ n R)(J:nt Γ n R){σ1 σ':St}{ov fv:AV}(hg:mn Y σ1 ov x=some fv)(h:vn R ls σ1 fv as ks=some (r,σ')) :
  ((∀ e∈as,hK e=true)∧∀ y∈ks,y.arg.isSome=true)∧Gm Γ n ls σ1 ov x as ks pos r σ':=by
 apply bJ h;clear h;intro i0 h;apply b5 h;clear h;intro vs σ2 i1 h;apply b5 h;clear h;intro kw σ3 i2 h;apply rA (NT i0);intro f self e0;subst e0;refine⟨⟨(I.evs i1).1.1,fun y hy=>?_⟩,?_⟩
 ·have n2:=(I.evk i2).1
  have:y.arg∈ks.map (·.arg):=List.mem_map_of_mem hy;rw[n2] at this;apply ah (dm this);intro q _ e;rw[←e];rfl
 intro c A s m imm cs va pl Q E C l Rx qx k;induction ov using AV.casesOn with
 |cell i=>
  apply b5 (show zX Y σ1 i x=some (.meth f self) from hg);clear hg;intro D fs e1 hg;apply ah qx.cell_inv;intro a e0 ha;subst e0;apply dD (Rx.C.cell ha (qM e1));intro d pre post e0 ll e2 cr;subst e0;apply nu cr.inst_inv;intro b d es n' e0 hf hp hc;subst e0;(obtain e:=CC.same e2;subst e);have hI:InstAt s.heap b (instObj D d) D (some (dictOf es n')):=InstAt.of_news Rx.N (Rx.has (d:=.inst b D d es n') (.head _)) (Rx.has (d:=.inst b D d es n') (.tail _ (.head _)));dsimp only at hf hp;cases z:lk x fs with
  |some u=>
   rw[z] at hg;apply bJ hg;clear hg;intro h1 hg;(apply j1 hg;clear hg;rintro rfl);exact Dw I J i1 i2 h (ov:=.cell i) C l Rx hI hf hp hc z k
  |none=>
   rw[z] at hg;apply aI hg;clear hg;intro ci h1 hg;have ok:=hy _ _ h1;unfold wL at hg;cases z2:lk x ci.meths with
   |some f'=>
    rw[z2] at hg;(injection hg with e;injection e with e1 e2;symm at e1;subst e1;symm at e2;subst e2);apply mV (ok.meths x f z2);intro m1 m2 m3 m4 m5 m6;apply aN ((J.cl h).2.2 f _ rfl);intro hf1 hrun;refine method_inst Rx.F C.X hI hc.ga m1 m2 (hf.miss z) ?_;refine xJ I i1 i2 C l Rx (fun h X hi=>keeps_K (FP hf1) h X) ?_;intro h' tk imm' cs' vals kwv R' x' v1 v2 v3;exact wpAny_call (hrun C (s:={s with heap:=h',toks:=tk}) R' (.cons (qx.ext x') v1) v2 v3 fun h2 t2 i2 c2 val R2 x2 q2=>k h2 t2 i2 c2 val R2 (x'.trans x2) q2)
   |none=>
    rw[z2] at hg;apply yY (ok.consts x _ hg);intro a c1 c2 c3 c4 c5;apply ir ((c5 [] []).inv);intro _ _ _ hm _;exact(List.not_mem_nil hm).elim
 |obj D fs=>
  apply aI (show Bl fs x=some (.meth f self) from hg);clear hg;intro u e1 hg;apply bJ hg;clear hg;intro h1 hg;(apply j1 hg;clear hg;rintro rfl);apply rB qx.obj_inv;intro a d es n' e0 j1 j2 hf hp hc;subst e0;exact Dw I J i1 i2 h (ov:=.obj D fs) C l Rx (InstAt.of_news Rx.N (bq _ j1) (bq _ j2)) hf hp hc e1 k
 |_=>injection hg
theorem Mf(hbm:sL Γ Y)(I:bW Γ n R){σ1 σ':St}{ov:AV}(h:wD Y R ls σ1 ov x as ks=some (r,σ')) :
  ((∀ e∈as,hK e=true)∧∀ y∈ks,y.arg.isSome=true)∧Gm Γ n ls σ1 ov x as ks pos r σ':=by
 apply aI h;clear h;intro id i0 h;apply b5 h;clear h;intro vs σ2 i1 h;apply bJ h;clear h;intro i2 h;have hks:ks=[]:=by induction ks using oL with|nil=>rfl|cons=>injection i2
 subst hks;apply aN (hbm i0);intro gm cb;refine⟨⟨(I.evs i1).1.1,fun U q=>(nomatch q)⟩,?_⟩;intro c A s m imm cs va pl Q E C l Rx qx k;refine gm C Rx qx ?_;refine Ta I i1 C l Rx ?_;intro h' tk imm' cs' vals R' x' v1;exact cb h C (s:={s with heap:=h',toks:=tk}) R' (qx.ext x') v1 fun h2 t2 i2 c2 val R2 x2 q2=>k h2 t2 i2 c2 val R2 (x'.trans x2) q2
theorem Fc(hy:∀ C c,Y.ci C=some c→ec Γ C c)(hbm:sL Γ Y)(I:bW Γ n R)(J:nt Γ n R){σ σ':St}{o:Expr}{apos:Pos}(h:BW Y R ls σ o x apos as ks pos=some (r,σ')) :
  b9 Γ n (fun c=>eval (.Call (.Attribute o x apos) as ks pos) c.env) ls σ r σ':=by
 apply bJ h;clear h;intro h0 h;apply b5 h;clear h;intro ov σ1 h1 h;cases hg:mn Y σ1 ov x with
 |some fv=>
  rw[hg] at h;obtain⟨⟨n1,n2⟩,g⟩:=K6 hy I J hg h;exact EP I h0 h1 n1 n2 g
 |none=>
  rw[hg] at h;obtain⟨⟨n1,n2⟩,g⟩:=Mf hbm I h;exact EP I h0 h1 n1 n2 g
end
end
end
section
section
variable {Γ:ar}{β:Bd}{Y:Pi}
theorem sx:∀ {A:List (Addr×Obj)},((A++(d,o)::B).map Prod.fst).Nodup→Upd d o o' (A++(d,o)::B) (A++(d,o')::B):=by
 intro L0;induction L0 with
 |nil=>
  intro h;replace h:=List.nodup_cons.mp h;exact .head fun p hp e=>h.1 (List.mem_map.mpr ⟨p,hp,e⟩)
 |cons q A ih=>
  intro h;replace h:=List.nodup_cons.mp h;refine .tail (fun e=>h.1 ?_) (ih h.2);rw[e];exact List.mem_map.mpr ⟨(d,o),cS _ (.head _),rfl⟩
theorem aj.put{d d':CC}(R:aj Γ h₀ L h m ls σ imm (pre++d::post))(ha:d'.addr=d.addr)(hf:d'.objs.map Prod.fst=d.objs.map Prod.fst)
  (F:Fr h₀ L h' m) (N:News h₀ L h' (imm++aL (pre++d'::post))) (hc:CR Γ imm (ae (pre++d::post)) d' y):aj Γ h₀ L h' m ls (dS σ pre.length y) imm (pre++d'::post):=by
 refine⟨F,N,?_,?_,?_⟩
 ·have:=R.nd
  rw[ny,List.map_append,List.map_append,List.map_append] at this ⊢;rw[hf];exact this
 ·rw[ue pre post d d' ha]
  exact R.C.set hc
 ·intro x v hx
  rw[ue pre post d d' ha];exact R.l x v hx
theorem aH.put(imm:List (Addr×Obj))(pre post:List CC)(d d':CC)(ha:d'.addr=d.addr):aH imm (pre++d::post) imm (pre++d'::post):=⟨fun U h=>h,fun k a h=>by rw[ue pre post d d' ha];exact h⟩
theorem be.put(hv:VR Γ imm ρ v y)(hf:be Γ imm ρ es fs):be Γ imm ρ (putL x hsh (.str x tk) v es) (Mine.put x y fs):=by
 induction hf using be.ind with
 |nil=>exact .cons hv .nil
 |@cons h t n v' y' es fs a g ih=>
  unfold putL;rw[yA]
  by_cases q:n=x
  ·subst q
   rw[if_pos (by simp [Value.isStr]),if_pos rfl];exact .cons hv g
  ·rw[if_neg (by simp [Value.isStr,q]),if_neg q]
   exact .cons a ih
theorem NF(x:Str)(hsh:Int)(key v:Value):∀ es:List DictEntry,(putL x hsh key v es).length≤es.length+1:=by
 intro L0;induction L0 with
 |nil=>
  exact Nat.le_refl _
 |cons e r ih=>
  unfold putL
  split
  ·simp
  ·have:=ih
   simp;lia
theorem be.len(h:be Γ imm ρ es fs):es.length=fs.length:=by
 induction h using be.ind with
 |nil=>rfl
 |cons _ _ ih=>exact congrArg (·+1) ih
theorem KJ:∀ {fs:List (Str×AV)},q∈Mine.put x y fs→q.1=x∨q∈fs∨∃ q'∈fs,q'.1=q.1:=by
 intro L0;induction L0 with
 |nil=>
  intro h;rcases bU h with rfl|h;exact .inl rfl;cases h
 |cons x0 fs ih=>
  obtain⟨z,u⟩:=x0;intro h;rw[yA] at h
  by_cases e:z=x
  ·rw[if_pos e] at h
   rcases bU h with rfl|h
   ·exact .inl e
   ·exact .inr (.inl (.tail _ h))
  ·rw[if_neg e] at h
   rcases bU h with rfl|h
   ·exact .inr (.inl (.head _))
   ·rcases ih h with e|e|⟨q',e1,e2⟩
    ·exact .inl e
    ·exact .inr (.inl (.tail _ e))
    ·exact .inr (.inr ⟨q',.tail _ e1,e2⟩)
theorem CY(hy:∀ C c,Y.ci C=some c→ec Γ C c)(h:AU Y σ k x v=some σ'){s:Shared}
  {Q:Unit→Shared→Prop} {E:Value→Shared→Prop} (C:bp Γ c A n) (R:aj Γ c.h₀ c.L s.heap m ls σ imm cs) (ho:VR Γ imm (ae cs) va (.cell k)) (hv:VR Γ imm (ae cs) val v)
  (kk:∀ h' tk imm' cs',aj Γ c.h₀ c.L h' m ls σ' imm' cs'→aH imm cs imm' cs'→Q () {s with heap:=h',toks:=tk}):wpAny (model Γ.prog Γ.w) A (setAttr va x val) Q E s:=by
 apply b5 h;clear h;intro D fs e1 h;apply bJ h;clear h;intro hcan h;apply bJ h;clear h;intro hz h;(apply j1 h;clear h;rintro rfl);apply ah ho.cell_inv;intro a e0 ha;subst e0;apply dD (R.C.cell ha (qM e1));intro d pre post e0 l e2 cr;subst e0;apply nu cr.inst_inv;intro b d es n' e0 hf hp hc;subst e0;(obtain e:=CC.same e2;subst e);dsimp only at hf hp hc;have hx:findIn Γ.K (.ref D) x=some none∧takerIn Γ.K D x=some none:=by
  unfold FV at hcan;cases z:lk x fs with
  |some v'=>
   have:=hp _ (jv z);exact⟨this,by unfold takerIn;rw[this];rfl⟩
  |none=>
   rw[z] at hcan;cases q1:Y.ci D with
   |none=>rw[q1] at hcan;injection hcan
   |some ci=>rw[q1] at hcan;exact(hy _ _ q1).flds x hcan
 replace hz:=df hz;rw[b7] at hz;have hl:(getL x es).isSome=true:=by
  have:=hf.get (x:=x);cases z:lk x fs with
  |some v'=>rw[z] at this;obtain⟨val,g1,_⟩:=this;rw[g1];rfl
  |none=>rw[hf.miss z];rfl
 have I:=InstAt.of_news R.N (R.has (d:=.inst b D d es n') (.head _)) (R.has (d:=.inst b D d es n') (.tail _ (.head _)));have e:∀ z:List DictEntry×Nat,imm++aL (pre++CC.inst b D d z.1 z.2::post)=(imm++aL pre++[(b,instObj D d)])++(d,dictOf z.1 z.2)::aL post:=fun z=>by rw[ny];simp [CC.objs]
 have N:=R.N;have nd:=R.nd;rw[e (es,n')] at N nd;refine set_dict (es':=putL x (PyData.keyHash Γ.w.params x) (.str x (s.toks+1)) val es) (n':=putN x es n') R.F C.X N I rfl hc.sa hc.po hx.2 hc.hd hl rfl (sx nd) (by have:=NF x (PyData.keyHash Γ.w.params x) (.str x (s.toks+1)) val es;have:=hf.len;lia) ?_;intro h' F' N';refine kk h' _ imm (pre++CC.inst b D d (putL x (PyData.keyHash Γ.w.params x) (.str x (s.toks+1)) val es) (putN x es n')::post) ?_ (aH.put imm pre post _ _ rfl);rw[←l];refine R.put rfl rfl F' (by rw[e (putL x (PyData.keyHash Γ.w.params x) (.str x (s.toks+1)) val es,putN x es n')];exact N') (.inst (hf.put hv) (fun q hq=>?_) hc);rcases KJ hq with e|e|⟨q',e1,e2⟩
 ·rw[e];exact hx.1
 ·exact hp q e
 ·rw[←e2];exact hp q' e1
end
end
section
section
variable {Γ:ar}{β:Bd}{Y:Pi}
theorem zi{R:Result→Shared→Prop}
  (h:wpAny (model Γ.prog Γ.w) A (isTrue test env (eval test env)) (fun b s₂=>
   if b then wpAny (model Γ.prog Γ.w) A (execs body env) (fun f s₃=>match f with
    |.next|.cont=>codeAny (model Γ.prog Γ.w) A (.whileLoop test body orelse env) R s₃
    |.brk=>R (.ok .next) s₃
    |.ret v=>R (.ok (.ret v)) s₃) (notedBy (model Γ.prog Γ.w) A env fun e s'=>R (.error e) s') s₂
   else wpAny (model Γ.prog Γ.w) A (execs orelse env) (fun f s₃=>R (.ok f) s₃) (notedBy (model Γ.prog Γ.w) A env fun e s'=>R (.error e) s') s₂)
   (notedBy (model Γ.prog Γ.w) A env fun e s'=>R (.error e) s') s):codeAny (model Γ.prog Γ.w) A (.whileLoop test body orelse env) R s:=by
 refine codeAny_of_tree ?_;show wpAny _ A ((whileTurn test body orelse env).onRaise (fun x=>do noteFrame x env;theTreesLotGoes x)) _ _ s;refine wpAny_noted ?_;simp only [whileTurn];refine wpAny_bind (wpAny_mono h (fun b s₂ h₂=>?_) fun U U h'=>h');induction b using oB with
 |true=>
  refine wpAny_bind (wpAny_mono h₂ (fun f s₃ h₃=>?_) fun U U h'=>h');cases f with
  |next=>exact wpAny_pure ⟨rfl,h₃⟩
  |cont=>exact wpAny_pure ⟨rfl,h₃⟩
  |brk=>exact wpAny_pure h₃
  |ret v=>exact wpAny_pure h₃
 |false=>exact wpAny_bind (wpAny_mono h₂ (fun f s₃ h₃=>wpAny_pure h₃) fun U U h'=>h')
theorem lc{R:Result→Shared→Prop}
  (h:wpAny (model Γ.prog Γ.w) A (pyNext it) (fun r s₁=>match r with
   |none=>wpAny (model Γ.prog Γ.w) A (execs orelse env) (fun f s₃=>R (.ok f) s₃) (notedBy (model Γ.prog Γ.w) A env fun e s'=>R (.error e) s') s₁
   |some v=>wpAny (model Γ.prog Γ.w) A (letOwnedTupleGo target it v) (fun U s₂=>wpAny (model Γ.prog Γ.w) A (assign target env v) (fun U s₂=>wpAny (model Γ.prog Γ.w) A (execs body env) (fun f s₃=>match f with
    |.next|.cont=>codeAny (model Γ.prog Γ.w) A (.forLoop target it body orelse env) R s₃
    |.brk=>R (.ok .next) s₃
    |.ret v=>R (.ok (.ret v)) s₃) (notedBy (model Γ.prog Γ.w) A env fun e s'=>R (.error e) s') s₂) (notedBy (model Γ.prog Γ.w) A env fun e s'=>R (.error e) s') s₂) (notedBy (model Γ.prog Γ.w) A env fun e s'=>R (.error e) s') s₁)
   (notedBy (model Γ.prog Γ.w) A env fun e s'=>R (.error e) s') s):codeAny (model Γ.prog Γ.w) A (.forLoop target it body orelse env) R s:=by
 refine codeAny_of_tree ?_;show wpAny _ A ((forTurn target it body orelse env).onRaise (fun x=>do noteFrame x env;theTreesLotGoes x)) _ _ s;refine wpAny_noted ?_;simp only [forTurn];refine wpAny_bind (wpAny_standAt (wpAny_bind (wpAny_onRaise (wpAny_mono h (fun r s₁ h₁=>?_) fun U U h'=>wpAny_standAt h'))));induction r using oO with
 |none=>exact wpAny_pure ⟨rfl,codeAny_block h₁⟩
 |some v=>
  refine wpAny_bind (wpAny_mono h₁ (fun U s₂ h₂=>?_) fun U U h'=>h');refine wpAny_bind (wpAny_mono h₂ (fun U s₂ h₂=>wpAny_bind (wpAny_mono h₂ (fun f s₃ h₃=>?_) fun U U h'=>h')) fun U U h'=>h');cases f with
  |next=>exact wpAny_pure ⟨rfl,h₃⟩
  |cont=>exact wpAny_pure ⟨rfl,h₃⟩
  |brk=>exact wpAny_pure h₃
  |ret v=>exact wpAny_pure h₃
noncomputable def x9{α:Type}(Γ:ar)(n:Nat)(t:Cx→α→Sem Unit)(P:List (Addr×Obj)→List CC→α→Prop)(ls:ac)(σ:St)(ls':ac)(σ':St):Prop :=
 ∀ {c A s m imm cs x} {Q:Unit→Shared→Prop} {E:Value→Shared→Prop},bp Γ c A n→cK c ls→aj Γ c.h₀ c.L s.heap m ls.v σ imm cs→P imm cs x →
  (∀ h' tk m' imm' cs',aj Γ c.h₀ c.L h' m' ls'.v σ' imm' cs'→cK c ls'→aH imm cs imm' cs'→Q () {s with heap:=h',toks:=tk})→wpAny (model Γ.prog Γ.w) A (t c x) Q E s
theorem aj.store{h₀ h h':Heap}(R:aj Γ h₀ L h m ls σ imm cs)(hv:VR Γ imm (ae cs) val v)
  (hn:h'.Ns L (fun y=>if y=x then some val else m y)) (hs:Heap.SameBut L h h'):aj Γ h₀ L h' (fun y=>if y=x then some val else m y) (Mine.put x v ls) σ imm cs:=by
 refine⟨R.F.set hn hs,R.N.set hs,R.nd,R.C,fun y u hy=>?_⟩;rw[Fo] at hy
 by_cases e:y=x
 ·rw[if_pos e] at hy
  (apply j1 hy;clear hy;rintro rfl);exact⟨val,if_pos e,hv⟩
 ·rw[if_neg e] at hy
  apply ah (R.l y u hy);intro val' a b;exact⟨val',by rw[if_neg e];exact a,b⟩
theorem Hn(h:Au ls x v=some ls'){s:Shared}{Q:Unit→Shared→Prop}{E:Value→Shared→Prop}
  (C:bp Γ c A n) (l:cK c ls) (R:aj Γ c.h₀ c.L s.heap m ls.v σ imm cs) (hv:VR Γ imm (ae cs) val v)
  (k:∀ h' tk m',aj Γ c.h₀ c.L h' m' ls'.v σ imm cs→cK c ls'→Q () {s with heap:=h',toks:=tk}):wpAny (model Γ.prog Γ.w) A (storeName c.env x val) Q E s:=by
 apply bJ h;clear h;intro h1 h;(apply j1 h;clear h;rintro rfl);have hk:c.cs.names.lookup x=some .local:=by
  rw[l.sc] at h1;exact xL h1
 apply nq c.parts;intro p1 p2 p3 p4;refine wpAny_storeName_local (m:=m) (by unfold Env.kindOf;rw[p1];exact hk) (by rw[p2];exact R.F.ns) (fun h' hn hs=>?_) (by rw[p1,C.k];rfl);rw[p2] at hn hs;refine k h' _ _ (R.store hv hn hs) ⟨l.sc,fun y u hy=>?_,l.nd⟩;replace hy:lk y (Mine.put x v ls.v)=some u:=hy;rw[Fo] at hy
 by_cases e:y=x
 ·rw[e];exact hk
 ·rw[if_neg e] at hy;exact l.lo y u hy
noncomputable abbrev jl (Γ:ar) (n:Nat) (t:Cx→Value→Sem Unit) (v:AV) (ls:ac) (σ:St) (ls':ac) (σ':St):Prop:=x9 Γ n t (EQ Γ v) ls σ ls' σ'
structure gM (Γ:ar) (n:Nat) (R:aR):Prop where
 exs:∀ {ls σ ss f ls' σ'},R.exs ls σ ss=some (f,ls',σ')→bt Γ n (fun c=>execs ss c.env) ls σ f ls' σ'
 ex:∀ {ls σ st f ls' σ'},R.ex ls σ st=some (f,ls',σ')→bt Γ n (fun c=>exec st c.env) ls σ f ls' σ'
 asg:∀ {ls σ v t ls' σ'},R.asg ls σ v t=some (ls',σ')→jl Γ n (fun c=>assign t c.env) v ls σ ls' σ'
 asgs:∀ {ls σ vs ts ls' σ'},R.asgs ls σ vs ts=some (ls',σ')→(∀ t∈ts,hK t=true)∧ts.length=vs.length∧x9 Γ n (fun c vals=>assignInOrder (ts.map fun t=>assign t c.env) vals) (qj Γ vs) ls σ ls' σ'
 asgm:∀ {ls σ v ts ls' σ'},R.asgm ls σ v ts=some (ls',σ')→(∀ t∈ts,hK t=true)∧jl Γ n (fun c val=>assignAll val (ts.map fun t=>assign t c.env)) v ls σ ls' σ'
 wh:∀ {ls σ t b f ls' σ'},R.wh ls σ t b=some (f,ls',σ')→∀ {c A s m imm cs} {Rq:Result→Shared→Prop},bp Γ c A n→cK c ls→aj Γ c.h₀ c.L s.heap m ls.v σ imm cs →
  (∀ h' tk m' imm' cs' fl,aj Γ c.h₀ c.L h' m' ls'.v σ' imm' cs'→cK c ls'→aH imm cs imm' cs'→FR Γ imm' cs' fl f→Rq (.ok fl) {s with heap:=h',toks:=tk})→codeAny (model Γ.prog Γ.w) A (.whileLoop t b [] c.env) Rq s
theorem QD(S:gM Γ n R)(h:yi Y R ls σ ss=some (f,ls',σ')):bt Γ n (fun c=>execs ss c.env) ls σ f ls' σ':=by
 unfold yi at h;induction ss using oL with
 |nil=>
  (apply j3 h;rintro rfl rfl rfl);intro c A s m imm cs Q E C l Rp k;exact wpAny_execs_nil (k s.heap s.toks m imm cs _ Rp l (aH.refl ..) .next)
 |cons st r=>
  apply v7 h;clear h;intro f1 ls1 σ1 h1 h;intro c A s m imm cs Q E C l Rp k;refine wpAny_execs_cons (S.ex h1 C l Rp fun hx tx mx ix cx fl Rx lx xx fx=>?_);induction f1 using Fl.casesOn with
  |next=>
   (obtain e:_=_:=FR.inv fx;subst e);exact S.exs h C lx (s:={s with heap:=hx,toks:=tx}) Rx fun h2 t2 m2 i2 c2 fl R2 l2 x2 f2=>k h2 t2 m2 i2 c2 fl R2 l2 (xx.trans x2) f2
  |ret v=>(apply j3 h;rintro rfl rfl rfl);obtain⟨_,e0,hv⟩:=FR.inv fx;clear fx;subst e0;exact k hx tx mx ix cx _ Rx lx xx (.ret hv)
theorem UL(I:bW Γ n R)(S:gM Γ n R)(h:IO Y R ls σ t b=some (f,ls',σ')) :
  ∀ {c A s m imm cs} {Rq:Result→Shared→Prop},bp Γ c A n→cK c ls→aj Γ c.h₀ c.L s.heap m ls.v σ imm cs →
  (∀ h' tk m' imm' cs' fl,aj Γ c.h₀ c.L h' m' ls'.v σ' imm' cs'→cK c ls'→aH imm cs imm' cs'→FR Γ imm' cs' fl f→Rq (.ok fl) {s with heap:=h',toks:=tk})→codeAny (model Γ.prog Γ.w) A (.whileLoop t b [] c.env) Rq s:=by
 intro c A s m imm cs Rq C l Rp k;apply b5 h;clear h;intro q σ1 h1 h;refine zi (I.tst h1 C l Rp fun hx tx ix cx x Rx xx qx=>?_);cases qx;induction q using oB with
 |false=>
  (apply j3 h;rintro rfl rfl rfl);exact wpAny_execs_nil (k hx tx m ix cx _ Rx l xx .next)
 |true=>
  apply v7 h;clear h;intro f1 ls1 σ2 h2 h;refine S.exs h2 C l (s:={s with heap:=hx,toks:=tx}) Rx fun hy ty my iy cy fl Ry ly xy fy=>?_;have again:R.wh ls1 σ2 t b=some (f,ls',σ')→codeAny (model Γ.prog Γ.w) A (.whileLoop t b [] c.env) Rq {s with heap:=hy,toks:=ty}:=fun h=>
   S.wh h C ly (s:={s with heap:=hy,toks:=ty}) Ry fun h2 t2 m2 i2 c2 fl R2 l2 x2 f2=>k h2 t2 m2 i2 c2 fl R2 l2 (xx.trans (xy.trans x2)) f2
  induction f1 using Fl.casesOn with
  |next=>(obtain e:_=_:=FR.inv fy;subst e);exact again h
  |ret v=>(apply j3 h;rintro rfl rfl rfl);obtain⟨_,e0,hv⟩:=FR.inv fy;clear fy;subst e0;exact k hy ty my iy cy _ Ry ly (xx.trans xy) (.ret hv)
end
end
section
section
variable {Γ:ar}{β:Bd}{Y:Pi}
noncomputable def Ak(Γ:ar):Prop :=
 ∀ {σ k xs iv j pl v},ak σ k=some (.list xs)→iW iv=some j→ji (aA xs) j=some pl →
  ∀ {c A s m ls imm cs va vi val} {n:Nat} {Q:Unit→Shared→Prop} {E:Value→Shared→Prop},bp Γ c A n→aj Γ c.h₀ c.L s.heap m ls σ imm cs→VR Γ imm (ae cs) va (.cell k)→VR Γ imm (ae cs) vi iv→VR Γ imm (ae cs) val v →
   (∀ h' tk cs',aj Γ c.h₀ c.L h' m ls (dS σ k (.list (dS xs pl v))) imm cs'→aH imm cs imm cs'→Q () {s with heap:=h',toks:=tk})→wpAny (model Γ.prog Γ.w) A (setItem va vi val) Q E s
theorem Jc(he:Γ.ε.Ok)(hb:aM β Γ.ε)(ho:yG op=true)(h:sY β op a b=some r):gZ Γ (inplaceOp op) a b r:=by
 cases op with
 |Add=>
  induction a using AV.casesOn with
  |int x=>
   apply aI (show (ob (eG b) fun y=>some (AV.int (x.add y)))=some r from h);intro y h1 h;(obtain e:=gE h1;subst e);(apply j1 h;rintro rfl);exact Ub
  |str x=>
   apply aI (show (ob (jw b) fun y=>gP β (x.app y))=some r from h);intro y h1 h;(obtain e:=ni h1;subst e);exact Ot he hb h
  |_=>injection h
 |Sub=>
  apply aI (show yJ a b=some r from h);intro x h1 h;apply aI h;intro y h2 h;(obtain e:=gE h1;subst e);(obtain e:=gE h2;subst e);(apply j1 h;rintro rfl);exact SP
 |_=>injection ho
theorem n5{c:Cx}:(∀ t∈ts,hK t=true)→assignEach ts c.env=ts.map fun t=>(false,assign t c.env):=by
 induction ts with
 |nil=>intro _;rfl
 |cons t r ih=>
  intro h;have e:assignEach (t::r) c.env=(false,assign t c.env)::assignEach r c.env:=by
   have:=h t (.head _);induction t using PySem.Expr.casesOn<;>first|rfl|(exact Bool.noConfusion (show false=true from this))
  rw[e,ih fun x hx=>h x (.tail _ hx)];rfl
section
variable {n:Nat}{R:aR}{ls:ac}{σ:St}{v:AV}{pos:Pos}
theorem Np:OB (EK ls σ v x) fun q=>jl Γ n (fun c=>assign (.Name x pos) c.env) v ls σ q.1 q.2 :=
 OB.ob fun ls1 h1=>OB.pure fun {c A s m imm cs val Q E} C l Rp hv k=>wpAny_assign_Name (Hn h1 C l Rp hv fun h' tk m' R' l'=>k h' tk m' imm cs R' l' (aH.refl ..))
theorem Sj(hy:∀ C c,Y.ci C=some c→ec Γ C c)(I:bW Γ n R):OB (El Y R ls σ v o x) fun q=>jl Γ n (fun c=>assign (.Attribute o x pos) c.env) v ls σ q.1 q.2 :=
 OB.obp fun ov σ1 h1=>OB.ob fun kk h2=>OB.ob fun σ2 h3=>OB.pure fun {c A s m imm cs val Q E} C l Rp hv k=>by
  (obtain e:=kl h2;subst e);show wpAny _ _ (do let ov ←holding [val] (eval o c.env);standAt pos.atName;holding [val,ov] (setAttr ov x val);release [val,ov] []) _ _ _;refine wpAny_bind (wpAny_holding (I.ev h1 C l Rp fun hx tx ix cx va Rx xx qx=>wpAny_bind (wpAny_standAt (wpAny_bind (wpAny_holding ?_)))));refine CY hy h3 (s:={s with heap:=hx,toks:=tx}) C Rx qx (hv.ext xx) fun h' tk i2 c2 R2 x2=>wpAny_release ?_;exact k h' tk m i2 c2 R2 l (xx.trans x2)
theorem DF{E:Value→Shared→Prop}(hne:l≠it):∀ (n i:Nat) (s:Shared) (Q:List Value→Shared→Prop),s.heap.IsListIter it l i→s.heap.IsList l items→i+n≤items.size →
  (∀ h',h'.IsListIter it l (i+n)→Heap.SameBut it s.heap h'→Q ((items.toList.drop i).take n) {s with heap:=h'})→wpAny (model Γ.prog Γ.w) A (draw (.ref it) n) Q E s
 |0,i,s,Q,hit,_,_,hQ=>by
  show wpAny _ _ (pure []) Q E s;exact wpAny_pure (by simpa using hQ s.heap hit (Heap.SameBut.refl ..))
 |n+1,i,s,Q,hit,ht,hle,hQ=>by
  have hlt:i<items.size:=by lia
  show wpAny _ _ (pyNext (.ref it) >>= _) Q E s;refine wpAny_bind (wpAny_pyNext_list_item hit ht (x:=items[i]) (by simp [hlt]) fun h₁ hit₁ hs₁=>?_);have ht1:h₁.IsList l items:=by
   apply ah ht;intro o ho r;exact⟨o,hs₁.extBut l o hne ho,r⟩
  refine wpAny_bind (wpAny_holding (DF hne n (i+1) _ _ hit₁ ht1 (by lia) fun h₂ hit₂ hs₂=>wpAny_pure ?_));have hd:items.toList.drop i=items[i]::items.toList.drop (i+1):=by simp [List.drop_eq_getElem_cons,hlt]
  have:=hQ h₂ (by rw[show i+(n+1)=i+1+n by lia];exact hit₂) (hs₁.trans hs₂);rw[hd,List.take_succ_cons] at this;exact this
theorem Kk{A:Around}{E:Value→Shared→Prop}{s:Shared}{Q:Unit→Shared→Prop}(hh:A.handled=none)(ht:s.heap.IsList l items)
  (hn:(assignEach elts env).length=items.size) (hstar:(assignEach elts env).findIdx? (·.1)=none)
  (h:∀ h',Heap.ExtBut s.heap.objs.size s.heap h'→wpAny (model Γ.prog Γ.w) A (assignInOrder ((assignEach elts env).map (·.2)) items.toList) Q E {s with heap:=h'}) :
  wpAny (model Γ.prog Γ.w) A (assign (.Tuple elts x1 pos) env (.ref l)) Q E s:=by
 rw[arm_assign_Tuple];refine wpAny_bind (wpAny_standAt ?_);have hlt:l≠s.heap.objs.size:=by obtain⟨o,ho,_⟩:=ht;exact Nat.ne_of_lt (Heap.lt_size ho)
 unfold unpack;rw[hn,hstar];refine wpAny_bind (wpAny_holding ?_);unfold unpackItems;refine wpAny_bind ?_;unfold notIterableAtAll;refine wpAny_bind (wpAny_specialOf ht.typeIs F.slot_list_iter.lookup ?_);refine wpAny_pure ?_;simp only [Bool.false_eq_true,if_false];refine wpAny_bind (wpAny_holding (wpAny_pyIter_list ht ?_));have htp:(s.heap.push {cls:=.type "list_iterator",data:=.fields #[.ref l,.int 0 0]}).IsList l items:=by
  apply ah ht;intro o ho r;exact⟨o,Heap.get?_push_of_some _ ho,r⟩
 refine wpAny_bind (wpAny_holding (DF hlt items.size 0 _ _ ⟨_,Heap.get?_push_size _ rfl,rfl,rfl⟩ htp (by lia) fun h₁ hit₁ hs₁=>?_));have hall:List.take items.size (List.drop 0 items.toList)=items.toList:=by
  rw[List.drop_zero];exact List.take_of_length_le (by simp)
 rw[hall,if_neg (by simp)];have ht₁:h₁.IsList l items:=by
  apply ah htp;intro o ho r;exact⟨o,hs₁.extBut l o hlt ho,r⟩
 refine wpAny_bind (wpAny_holding (wpAny_pyNext_list_end hh hit₁ ht₁ (by simp) fun h₂ he₂=>?_));simp only [Option.isSome_none,Bool.false_eq_true,if_false];exact wpAny_pure (h h₂ fun b o hb e=>he₂ b o hb (hs₁.extBut b o hb (Heap.get?_push_of_some _ e)))
theorem Ua(S:gM Γ n R):OB (HG R ls σ v ts) fun q'=>jl Γ n (fun c=>assign (.Tuple ts q pos) c.env) v ls σ q'.1 q'.2:=by
 induction v using AV.casesOn with
 |tup vs=>
  intro q' h;apply d5 (S.asgs (show R.asgs ls σ vs ts=some (q'.1,q'.2) from h));intro n1 n2 g;intro c A s m imm cs val Q E C l Rp hv k;apply eZ hv.tup_inv;intro a vals nn e0 hk hvs;subst e0;have ho:s.heap.get? a=some {cls:=.type "tuple",data:=.seq vals.toArray nn}:=Rp.kn C.X hk;have hsz:(assignEach ts c.env).length=vals.toArray.size:=by rw[n5 n1,List.length_map,n2,←hvs.len];simp
  refine wpAny_assign_Tuple C.hd ⟨_,ho,rfl,_,rfl⟩ hsz (by rw[n5 n1];exact List.findIdx?_eq_none_iff.mpr (by intro x hx;obtain⟨_,_,rfl⟩:=dm hx;rfl)) fun h' hx=>?_;have kp:∀ b o,s.heap.get? b=some o→h'.get? b=some o:=fun b o e=>hx b o (Nat.ne_of_lt (Heap.lt_size e)) e;rw[n5 n1,List.map_map];have R':aj Γ c.h₀ c.L h' m ls.v σ imm cs:=⟨Rp.F.after kp,fun q hq=>⟨kp _ _ (Rp.N q hq).1,(Rp.N q hq).2⟩,Rp.nd,Rp.C,Rp.l⟩;exact g C l (s:={s with heap:=h'}) (x:=vals) R' hvs (Q:=Q) (E:=E) fun h2 tk m2 i2 c2 R2 l2 x2=>k h2 tk m2 i2 c2 R2 l2 x2
 |cell kk=>
  show OB (ob (eq σ kk) fun vs=>R.asgs ls σ vs ts) _;refine OB.ob fun vs hx q' h=>?_;apply d5 (S.asgs (show R.asgs ls σ vs ts=some (q'.1,q'.2) from h));intro n1 n2 g;intro c A s m imm cs val Q E C l Rp hv k;apply ah hv.cell_inv;intro a e0 ha;subst e0;apply dD (Rp.C.cell ha (g6 hx));intro dd pre post e0 hl e2 cr;subst e0;apply eZ cr.list_inv;intro a2 vals nn e0 hvs hsz';subst e0;replace e2:a2=a:=e2;subst e2;have hsz:(assignEach ts c.env).length=vals.toArray.size:=by rw[n5 n1,List.length_map,n2,←hvs.len];simp
  refine Kk C.hd ⟨_,(Rp.N _ (Rp.has (d:=.list a2 vals nn) (.head _))).1,rfl,_,rfl⟩ hsz (by rw[n5 n1];exact List.findIdx?_eq_none_iff.mpr (by intro x hx;obtain⟨_,_,rfl⟩:=dm hx;rfl)) fun h' hx=>?_;have kp:∀ b o,s.heap.get? b=some o→h'.get? b=some o:=fun b o e=>hx b o (Nat.ne_of_lt (Heap.lt_size e)) e;rw[n5 n1,List.map_map];have R':aj Γ c.h₀ c.L h' m ls.v σ imm (pre++CC.list a2 vals nn::post):=⟨Rp.F.after kp,fun q hq=>⟨kp _ _ (Rp.N q hq).1,(Rp.N q hq).2⟩,Rp.nd,Rp.C,Rp.l⟩;exact g C l (s:={s with heap:=h'}) (x:=vals) R' hvs (Q:=Q) (E:=E) fun h2 tk m2 i2 c2 R2 l2 x2=>k h2 tk m2 i2 c2 R2 l2 x2
 |_=>exact OB.no
theorem Qr(hpi:Ak Γ)(I:bW Γ n R):OB (EU R ls σ v o i) fun q=>jl Γ n (fun c=>assign (.Subscript o i pos) c.env) v ls σ q.1 q.2 :=
 OB.gd fun h0=>OB.obp fun ov σ1 h1=>OB.obp fun iv σ2 h2=>OB.ob fun kk h3=>OB.ob fun xs h4=>OB.ob fun j h5=>OB.ob fun pl h6=>OB.pure fun {c A s m imm cs val Q E} C l Rp hv k=>by
  (obtain e:=kl h3;subst e);show wpAny _ _ (do let ov ←holding [val] (eval o c.env);let iv ←holding [val,ov] (eval i c.env);standAt pos;holding [val,ov,iv] (setItem ov iv val);release (match (generalizing:=false) i with|.Slice _ _ none _=>[iv,val,ov]|_=>[val,ov,iv]) []) _ _ _;refine wpAny_bind (wpAny_holding (I.ev h1 C l Rp fun hx tx ix cx va Rx xx qx=>?_));refine wpAny_bind (wpAny_holding (I.ev h2 C l (s:={s with heap:=hx,toks:=tx}) Rx fun hy' ty iy cy vi Ry xy qy=>wpAny_bind (wpAny_standAt (wpAny_bind (wpAny_holding ?_)))));refine hpi (g6 h4) h5 h6 C (s:={s with heap:=hy',toks:=ty}) Ry (qx.ext xy) qy (hv.ext (xx.trans xy)) fun h' tk c2 R2 x2=>wpAny_release ?_;exact k h' tk m iy c2 R2 l (xx.trans (xy.trans x2))
theorem Lx(hy:∀ C c,Y.ci C=some c→ec Γ C c)(hpi:Ak Γ)(I:bW Γ n R)(S:gM Γ n R)(h:yd Y R ls σ v t=some (ls',σ')) :
  jl Γ n (fun c=>assign t c.env) v ls σ ls' σ':=by
 induction t using PySem.Expr.casesOn with
 |Name x pos=>exact Np _ h
 |Attribute o x pos=>exact Sj hy I _ h
 |Tuple ts q pos=>exact Ua S _ h
 |Subscript o i pos=>exact Qr hpi I _ h
 |ListComp e2 gs sc pos=>
  unfold yd at h;rw[show vE (.ListComp e2 gs sc pos)=i7 e2 sc gs from rfl] at h;rcases kS e2 sc gs with q|⟨_,_,_,q⟩<;>rw[q] at h<;>injection h
 |_=>injection h
end
set_option tactic.hygienic true in
theorem NU(S:gM Γ n R)(h:CD Y R ls σ vs ts=some (ls',σ')) :
  (∀ t∈ts,hK t=true)∧ts.length=vs.length∧x9 Γ n (fun c vals=>assignInOrder (ts.map fun t=>assign t c.env) vals) (qj Γ vs) ls σ ls' σ':=by
 induction vs using oL<;>induction ts using oL<;>try (injection h;done)
 ·(apply j2 h;clear h;rintro rfl rfl)
  refine⟨fun _ q=>(nomatch q),rfl,?_⟩;intro c A s m imm cs vals Q E C l Rp hv k;(obtain e:_=_:=ao.inv hv;subst e);exact wpAny_pure (k s.heap s.toks m imm cs Rp l (aH.refl ..))
 ·rename_i v vs t ts
  apply bJ h;clear h;intro h0 h;apply b5 h;clear h;intro ls1 σ1 h1 h;apply d5 (S.asgs h);intro n1 n2 g;refine⟨fun e q=>(bU q).elim (fun q=>q▸h0) (n1 e),congrArg (·+1) n2,?_⟩;intro c A s m imm cs vals Q E C l Rp hv k;obtain⟨_,_,e0,a1,b1⟩:=ao.inv hv;clear hv;subst e0;revert a1 b1;intro hv hvs;refine wpAny_bind (wpAny_holding (S.asg h1 C l Rp hv fun hx tx mx ix cx Rx lx xx=>?_));exact g C lx (s:={s with heap:=hx,toks:=tx}) Rx (hvs.ext xx) fun h2 t2 m2 i2 c2 R2 l2 x2=>k h2 t2 m2 i2 c2 R2 l2 (xx.trans x2)
theorem PR(S:gM Γ n R)(h:Gq Y R ls σ v ts=some (ls',σ')) :
  (∀ t∈ts,hK t=true)∧jl Γ n (fun c val=>assignAll val (ts.map fun t=>assign t c.env)) v ls σ ls' σ':=by
 induction ts using oL with
 |nil=>injection h
 |cons t ts=>
  apply bJ h;clear h;intro h0 h;induction ts using oL with
  |nil=>
   refine⟨fun e q=>(bU q).elim (fun q=>q▸h0) fun q=>(nomatch q),?_⟩;exact S.asg h
  |cons t2 ts=>
   apply b5 h;clear h;intro ls1 σ1 h1 h;apply aN (S.asgm h);intro n1 g;refine⟨fun e q=>(bU q).elim (fun q=>q▸h0) (n1 e),?_⟩;intro c A s m imm cs val Q E C l Rp hv k;refine wpAny_bind (wpAny_holding (S.asg h1 C l Rp hv fun hx tx mx ix cx Rx lx xx=>?_));exact g C lx (s:={s with heap:=hx,toks:=tx}) Rx (hv.ext xx) fun h2 t2 m2 i2 c2 R2 l2 x2=>k h2 t2 m2 i2 c2 R2 l2 (xx.trans x2)
end
end
section
section
variable {Γ:ar}{β:Bd}{Y:Pi}
theorem EO(h:tD e=true)(t:Option Expr)(line:Nat)(env:Env):swapsWith e t line env=pure false:=by
 unfold swapsWith;induction e using PySem.Expr.casesOn<;>first|rfl|(exact(A2 h).elim)|(exact Bool.noConfusion (show false=true from h))
theorem PE(h:Id ts e=true)(env:Env):swappedStores ts e env=pure none:=by
 have tup:∀ (us vs:List Expr),vs.all (foldedForSure 8)=true→(do
   if !(us.length == 2 ||us.length == 3) ||vs.length != us.length ||env.blockKind != .function then return none
   if vs.any fun|.Starred ..=>true|_=>false then return none
   let line:=(us.head?.map (·.pos.line)).getD 0
   let names:=us.filterMap fun
    |.Name id pos=>if env.kindOf id == some .local&&pos.line == line then some id else none
    |_=>none
   if names.length != us.length ||names.eraseDups.length != names.length then return none
   if vs.all (foldedForSure 8) then return none
   if vs.all (constantsAlone 8) then unsupported "assign.tuple-of-constant-expressions:order-of-the-stores"
   return some names:Sem (Option (List Str)))=pure none:=by
  intro us vs hv;dsimp only
  split
  ·rfl
  ·split
   ·rfl
   ·split
    ·rfl
    ·first|rfl|rw[if_pos hv]
 match ts with
 |[]=>rfl
 |t::_::_=>induction t using PySem.Expr.casesOn<;>first|rfl|(cases e<;>rfl)
 |[t]=>
  induction t using PySem.Expr.casesOn with
  |Tuple us q pos=>
   induction e using PySem.Expr.casesOn with
   |Tuple vs q2 pos2=>exact tup us vs h
   |_=>rfl
  |List=>exact Bool.noConfusion (show false=true from h)
  |_=>rfl
noncomputable def zJ(Γ:ar)(n:Nat)(R:aR):Prop :=
 ∀ {ls σ v it t b f ls' σ'},sP σ v=some it→R.fo ls σ t it b=some (f,ls',σ')→∀ {c A s m imm cs va ex} {Q:Flow→Shared→Prop} {E:Value→Shared→Prop},bp Γ c A n→cK c ls→aj Γ c.h₀ c.L s.heap m ls.v σ imm cs→VR Γ imm (ae cs) va v→mc ex=true→ie t=true →
  (∀ h' tk m' imm' cs' fl,aj Γ c.h₀ c.L h' m' ls'.v σ' imm' cs'→cK c ls'→aH imm cs imm' cs'→FR Γ imm' cs' fl f→Q fl {s with heap:=h',toks:=tk}) →
  wpAny (model Γ.prog Γ.w) A (foldedSetIterable ex c.env va >>= fun x=>standAt ex.pos >>= fun U=>holding [x] (pyIter x) >>= fun i=>runOwn (.forLoop t i b [] c.env) c.env) Q E s
noncomputable abbrev kj (Γ:ar) (n:Nat) (t:Cx→Sem Flow) (ls:ac) (σ:St) (q:Fl×ac×St):Prop:=bt Γ n t ls σ q.1 q.2.1 q.2.2
section
variable {n:Nat}{R:aR}{ls:ac}{σ:St}{pos:Pos}
theorem HZ(I:bW Γ n R):OB (yP R ls σ e) (kj Γ n (fun c=>exec (.Expr e pos) c.env) ls σ) :=
 OB.gd fun h0=>OB.obp fun v σ1 h1=>OB.pure fun {c A s m imm cs Q E} C l Rp k=>by
  have hint:interactive c.env=false:=by
   unfold interactive;rw[c.parts.1,C.k];rfl
  exact wpAny_Expr_any (I.ev h1 C l Rp fun hx tx ix cx va Rx xx qx=>k hx tx m ix cx _ Rx l xx .next) hint (EO h0 _ _ _)
theorem Uz(I:bW Γ n R):OB (FX R ls σ e) (kj Γ n (fun c=>exec (.Return e pos) c.env) ls σ):=by
 induction e using oO with
 |none=>exact OB.pure fun {c A s m imm cs Q E} C l Rp k=>wpAny_Return_none (k s.heap s.toks m imm cs _ Rp l (aH.refl ..) (.ret .none))
 |some e=>
  show OB (obp (R.ev ls σ e) fun v σ=>some (Fl.ret v,ls,σ)) _;exact OB.obp fun v σ1 h1=>OB.pure fun {c A s m imm cs Q E} C l Rp k=>wpAny_Return_some (I.ev h1 C l Rp fun hx tx ix cx va Rx xx qx=>k hx tx m ix cx _ Rx l xx (.ret qx))
theorem QU{e:Expr}(h:tD e=true)(line:Nat)(env:Env){ts:List Expr}:swapsWithSole ts e line env=pure false:=by
 cases ts with
 |nil=>rfl
 |cons t r=>
  cases r with
  |nil=>exact EO h _ _ _
  |cons=>rfl
theorem Dh(I:bW Γ n R)(S:gM Γ n R):OB (zn R ls σ ts e) (kj Γ n (fun c=>exec (.Assign ts e pos) c.env) ls σ) :=
 OB.gd fun h0=>OB.obp fun v σ1 h1=>OB.obp fun ls1 σ2 h2=>OB.pure fun {c A s m imm cs Q E} C l Rp k=>by
  replace h0:=aB h0;apply aN (S.asgm h2);intro n1 g;refine wpAny_Assign_stores (I.ev h1 C l Rp fun hx tx ix cx va Rx xx qx=>?_) ?_ (PE h0.2 _)
  ·rw[n5 n1,List.map_map]
   exact g C l (s:={s with heap:=hx,toks:=tx}) Rx qx fun h' tk m' i2 c2 R2 l2 x2=>k h' tk m' i2 c2 _ R2 l2 (xx.trans x2) .next
  ·exact QU h0.1 _ _
theorem Ud(he:Γ.ε.Ok)(hb:aM Y.β Γ.ε)(I:bW Γ n R):OB (CU Y R ls σ x op e) (kj Γ n (fun c=>exec (.AugAssign (.Name x q) op e pos) c.env) ls σ) :=
 OB.gd fun h0=>OB.ob fun a h1=>OB.obp fun b σ1 h2=>OB.ob fun r h3=>OB.ob fun ls1 h4=>OB.pure fun {c A s m imm cs Q E} C l Rp k=>by
  replace h0:=aB h0;apply ah (Rp.l x a h1);intro val v1 v2;apply nq c.parts;intro p1 p2 p3 p4;refine wpAny_AugAssign_Name (wpAny_loadName_local (m:=m) (by rw[p1];exact C.k) (by unfold Env.kindOf;rw[p1];exact l.lo x a h1) (by rw[p2];exact Rp.F.ns) v1 ?_);refine I.ev h2 C l Rp fun hx tx ix cx va Rx xx qx=>?_;refine Jc he hb h0.2 h3 (v2.ext xx) qx fun tk val2 q2=>?_;exact Hn h4 C l (s:={s with heap:=hx,toks:=tk}) Rx q2 fun h' tk' m' R' l'=>k h' tk' m' ix cx _ R' l' xx .next
theorem Ni(he:Γ.ε.Ok)(hb:aM Y.β Γ.ε)(hy:∀ C c,Y.ci C=some c→ec Γ C c)(I:bW Γ n R):OB (Jp Y R ls σ o x op e) (kj Γ n (fun c=>exec (.AugAssign (.Attribute o x q) op e pos) c.env) ls σ) :=
 OB.gd fun h0=>OB.obp fun ov σ1 h1=>OB.ob fun kk h2=>OB.ob fun a h3=>OB.obp fun b σ2 h4=>OB.ob fun r h5=>OB.ob fun σ3 h6=>OB.pure fun {c A s m imm cs Q E} C l Rp k=>by
  (obtain e:=kl h2;subst e);refine wpAny_AugAssign_AttributeAny (I.ev h1 C l Rp fun hx tx ix cx va Rx xx qx=>?_);refine Fi hy h3 (s:={s with heap:=hx,toks:=tx}) C Rx qx fun ha ta ia ca vo Ra xa qa=>?_;refine I.ev h4 C l (s:={s with heap:=ha,toks:=ta}) Ra fun hz tz iz cz vb Rz xz qz=>?_;refine Jc he hb h0 h5 (qa.ext xz) qz fun tk val2 q2=>?_;refine CY hy h6 (s:={s with heap:=hz,toks:=tk}) C Rz (qx.ext (xa.trans xz)) q2 fun h' tk' i2 c2 R2 x2=>?_;exact k h' tk' m i2 c2 _ R2 l (xx.trans (xa.trans (xz.trans x2))) .next
theorem Ls(I:bW Γ n R)(S:gM Γ n R):OB (Ib R ls σ t b o) (kj Γ n (fun c=>exec (.If t b o pos) c.env) ls σ) :=
 OB.obp fun q σ1 h1 z h=>by
  intro c A s m imm cs Q E C l Rp k;refine wpAny_If (I.tst h1 C l Rp fun hx tx ix cx x Rx xx qx=>?_);cases qx;induction q using oB with
  |true=>exact S.exs h C l (s:={s with heap:=hx,toks:=tx}) Rx fun h2 t2 m2 i2 c2 fl R2 l2 x2 f2=>k h2 t2 m2 i2 c2 fl R2 l2 (xx.trans x2) f2
  |false=>exact S.exs h C l (s:={s with heap:=hx,toks:=tx}) Rx fun h2 t2 m2 i2 c2 fl R2 l2 x2 f2=>k h2 t2 m2 i2 c2 fl R2 l2 (xx.trans x2) f2
theorem ST(S:gM Γ n R):OB (Ge R ls σ t b o) (kj Γ n (fun c=>exec (.While t b o pos) c.env) ls σ) :=
 OB.gd fun h0 z h=>by
  have ho:o=[]:=by induction o using oL with|nil=>rfl|cons=>injection h0
  subst ho;intro c A s m imm cs Q E C l Rp k;exact wpAny_While (S.wh h C l Rp k)
theorem Nq(I:bW Γ n R)(hfo:zJ Γ n R):OB (C6 R ls σ t it b o) (kj Γ n (fun c=>exec (.For t it b o pos) c.env) ls σ) :=
 OB.gd fun h0=>OB.obp fun v σ1 h1=>OB.ob fun i h2 z h=>by
  simp only [Bool.and_eq_true] at h0;obtain⟨⟨g1,g2⟩,g3⟩:=h0;have ho:o=[]:=by induction o using oL with|nil=>rfl|cons=>injection g1
  subst ho;intro c A s m imm cs Q E C l Rp k;show wpAny _ _ (exec (.For t it b [] pos) c.env) _ _ _;rw[exec_For];refine wpAny_bind (wpAny_standAt (wpAny_bind (I.ev h1 C l Rp fun hx tx ix cx va Rx xx qx=>?_)));exact hfo h2 h C l (s:={s with heap:=hx,toks:=tx}) Rx qx g2 g3 fun h' tk m' i2 c2 fl R2 l2 x2 f2=>k h' tk m' i2 c2 fl R2 l2 (xx.trans x2) f2
theorem S2(he:Γ.ε.Ok)(hb:aM Y.β Γ.ε)(hy:∀ C c,Y.ci C=some c→ec Γ C c)(I:bW Γ n R)(S:gM Γ n R)
  (hfo:zJ Γ n R) {ls':ac} {σ':St} {st:Stmt} {f:Fl} (h:AD Y R ls σ st=some (f,ls',σ')):bt Γ n (fun c=>exec st c.env) ls σ f ls' σ':=by
 induction st using PySem.Stmt.casesOn with
 |Expr e pos=>exact HZ I _ h
 |Pass pos=>(apply j3 h;rintro rfl rfl rfl);exact fun {c A s m imm cs Q E} C l Rp k=>wpAny_Pass (k s.heap s.toks m imm cs _ Rp l (aH.refl ..) .next)
 |Return e pos=>exact Uz I _ h
 |Assign ts e pos=>exact Dh I S _ h
 |AugAssign t op e pos=>
  induction t using PySem.Expr.casesOn with
  |Name x q=>exact Ud he hb I _ h
  |Attribute o x q=>exact Ni he hb hy I _ h
  |ListComp e2 gs sc q=>
   unfold AD at h;rw[show vS (.AugAssign (.ListComp e2 gs sc q) op e pos)=.aug (.ListComp e2 gs sc q) op e from rfl] at h;replace h:Bx Y R ls σ (.ListComp e2 gs sc q) op e=some (f,ls',σ'):=h;unfold Bx at h;rw[show vE (.ListComp e2 gs sc q)=i7 e2 sc gs from rfl] at h;rcases kS e2 sc gs with q|⟨_,_,_,q⟩<;>rw[q] at h<;>injection h
  |_=>injection h
 |If t b o pos=>exact Ls I S _ h
 |While t b o pos=>
  have D:kj Γ n (fun c=>exec (.While t b o pos) c.env) ls σ (f,ls',σ'):=ST S _ h;exact @D
 |For t it b o pos=>
  have D:kj Γ n (fun c=>exec (.For t it b o pos) c.env) ls σ (f,ls',σ'):=Nq I hfo _ h;exact @D
 |_=>injection h
end
end
end
section
section
variable {Γ:ar}{imm imm':List (Addr×Obj)}{ρ:List Addr}
section
variable (hi:∀ p∈imm,da p.2=false→p∈imm')
include hi
theorem VR.drop:VR Γ imm ρ v x→VR Γ imm' ρ v x:=VR.all (n:=0) (q:=false) hi (fun U U U h=>h) nofun
theorem ao.drop:ao Γ imm ρ v x→ao Γ imm' ρ v x:=ao.all (n:=0) (q:=false) hi (fun U U U h=>h) nofun
theorem be.drop:be Γ imm ρ v x→be Γ imm' ρ v x:=be.all (n:=0) (q:=false) hi (fun U U U h=>h) nofun
theorem CR.drop(h:CR Γ imm ρ c x):CR Γ imm' ρ c x :=
 CR.casesOn (motive:=fun c x U=>CR Γ imm' ρ c x) h (fun h k=>.list (h.drop hi) k) (fun h g k=>.rows h g k) (fun h g k=>.inst (h.drop hi) g k) .any
theorem bu.drop(h:bu Γ imm ρ c x):bu Γ imm' ρ c x:=by
 induction h with
 |nil=>exact .nil
 |cons h _ ih=>exact .cons (h.drop hi) ih
end
noncomputable def ju(S:List Addr)(imm:List (Addr×Obj)):List (Addr×Obj):=imm.filter fun q=>!S.contains q.1
theorem gC:q∈ju S imm↔q∈imm∧q.1 ∉ S:=by
 unfold ju;rw[List.mem_filter];simp
variable {h₀ h h':Heap}{L I:Addr}{S:List Addr}{m:Str→Option Value}{ls:List (Str×AV)}{σ:St}{cs:List CC}{o:Obj}
noncomputable abbrev uf (S:List Addr) (imm:List (Addr×Obj)):Prop:=∀ I∈S,∃ o,(I,o)∈imm∧da o=true
theorem uf.one(hI:(I,o)∈imm)(ho:da o=true):uf [I] imm:=fun U h=>cH h▸⟨o,hI,ho⟩
theorem nr(h:b≠I):b ∉ [I]:=fun q=>h (cH q)
theorem aj.keepsIters(R:aj Γ h₀ L h m ls σ imm cs)(hS:uf S imm):∀ p∈imm,da p.2=false→p∈ju S imm:=fun p hp q=>by
 refine gC.mpr ⟨hp,fun e=>?_⟩;apply ah (hS _ e);intro o hI ho;have h1:=(R.N p (bq _ hp)).1;have h2:=(R.N _ (bq _ hI)).1;rw[h2] at h1;(apply j1 h1;clear h1;rintro rfl);rw[ho] at q;injection q
theorem aj.keepsIter(R:aj Γ h₀ L h m ls σ imm cs)(hI:(I,o)∈imm)(ho:da o=true):∀ p∈imm,da p.2=false→p∈ju [I] imm:=R.keepsIters (.one hI ho)
theorem aj.dropIters(R:aj Γ h₀ L h m ls σ imm cs)(hS:uf S imm)(hx:∀ b x,b ∉ S→h.get? b=some x→h'.get? b=some x):aj Γ h₀ L h' m ls σ (ju S imm) cs:=by
 have hd:=R.keepsIters hS;have nd:=R.nd;rw[List.map_append] at nd;refine⟨⟨?_,fun b x e=>hx b x (fun z=>?_) (R.F.keep b x e),R.F.above⟩,fun q hq=>?_,?_,R.C.drop hd,fun x v hv=>?_⟩
 ·apply mC R.F.ns;intro oL es ep hL r
  refine⟨oL,es,ep,hx L oL (fun z=>?_) hL,r⟩;apply ah (hS _ z);intro o hI _;exact(R.N _ (bq _ hI)).2.1 rfl
 ·apply ah (hS _ z);intro o hI _
  rw[(R.N _ (bq _ hI)).2.2] at e;injection e
 ·rcases ey hq with a|a
  ·have:=gC.mp a
   have N:=R.N q (bq _ this.1);exact⟨hx _ _ this.2 N.1,N.2⟩
  ·have N:=R.N q (cS _ a)
   refine⟨hx _ _ (fun z=>?_) N.1,N.2⟩;apply ah (hS _ z);intro o hI _;exact(List.nodup_append.mp nd).2.2 q.1 (List.mem_map.mpr ⟨_,hI,rfl⟩) q.1 (List.mem_map_of_mem a) rfl
 ·exact R.nd.sublist ((List.filter_sublist.append (List.Sublist.refl _)).map _)
 ·apply ah (R.l x v hv);intro val a b
  exact⟨val,a,b.drop hd⟩
theorem aj.dropIter(R:aj Γ h₀ L h m ls σ imm cs)(hI:(I,o)∈imm)(ho:da o=true)(hx:Heap.ExtBut I h h'):aj Γ h₀ L h' m ls σ (ju [I] imm) cs:=R.dropIters (.one hI ho) fun b x hb=>hx b x fun e=>hb (e▸.head _)
theorem aj.addI(R:aj Γ h₀ L h m ls σ imm cs)(hg:h.get? I=some o)(hL:I≠L)(h0:h₀.get? I=none)(hn:I ∉ (imm++aL cs).map Prod.fst):aj Γ h₀ L h m ls σ ((I,o)::imm) cs:=by
 refine⟨R.F,fun q hq=>?_,List.nodup_cons.mpr ⟨hn,R.nd⟩,R.C.mono (fun U h=>.tail _ h) fun U U h=>h,fun x v hv=>?_⟩
 ·rcases bU hq with rfl|hq
  ·exact⟨hg,hL,h0⟩
  ·exact R.N q hq
 ·apply ah (R.l x v hv);intro val a b
  exact⟨val,a,b.mono (fun U h=>.tail _ h) fun U U h=>h⟩
theorem aj.gone(R:aj Γ h₀ L h m ls σ imm cs)(hI:(I,o)∈imm)(hs:I∈S):I ∉ (ju S imm++aL cs).map Prod.fst:=fun hq=>by
 have nd:=R.nd;rw[List.map_append] at nd;apply ah (dm hq);intro q h1 h2;rcases ey h1 with a|a
 ·exact(gC.mp a).2 (h2▸hs)
 ·exact(List.nodup_append.mp nd).2.2 I (List.mem_map.mpr ⟨_,hI,rfl⟩) q.1 (List.mem_map_of_mem a) h2.symm
theorem aj.putIter(R:aj Γ h₀ L h m ls σ imm cs)(hI:(I,o)∈imm)(ho:da o=true)(hx:Heap.ExtBut I h h')(hg:h'.get? I=some o'):aj Γ h₀ L h' m ls σ ((I,o')::ju [I] imm) cs:=by
 have NI:=R.N _ (bq _ hI);exact(R.dropIter hI ho hx).addI hg NI.2.1 NI.2.2 (R.gone hI (.head _))
structure nM (I:Addr) (imm:List (Addr×Obj)) (cs:List CC) (imm':List (Addr×Obj)) (cs':List CC):Prop where
 i:∀ p∈imm,p.1≠I→p∈imm'
 r:∀ k a,ak (ae cs) k=some a→ak (ae cs') k=some a
noncomputable def fO(i n:Nat):Obj:={cls:=.type "range_iterator",data:=.fields #[rawInt (i:Int),rawInt (n:Int),rawInt 1]}
inductive ge (imm:List (Addr×Obj)) (ρ:List Addr) (I:Addr):It→Prop
 |lst {l k i:Nat} {o:Obj}:(I,o)∈imm→ak ρ k=some l→o.cls=.type "list_iterator"→o.data=.fields #[.ref l,.int i 0]→ge imm ρ I (.lst k i)
 |str {x:Str} {t:Tok} {i:Nat} {ty:String} {o:Obj}:(I,o)∈imm→(ty="str_iterator"∨ty="str_ascii_iterator")→o.cls=.type ty→o.data=.fields #[.str x t,.int i 0]→ge imm ρ I (.vals ((x.cps.toList.drop i).map fun c=>.str [.lit [c]]))
 |rng {i n:Nat}:(I,fO i n)∈imm→ge imm ρ I (.vals (uB i n))
theorem ge.ext(e:aH imm cs imm' cs'):ge imm (ae cs) I it→ge imm' (ae cs') I it
 |.lst a b c d=>.lst (e.i _ a) (e.r _ _ b) c d
 |.str a b c d=>.str (e.i _ a) b c d
 |.rng a=>.rng (e.i _ a)
noncomputable def o0(o:Obj):Bool:=match o.cls with|.type n=>n == "enumerate"|_=>false
theorem ge.obj(h:ge imm ρ I it):∃ o,(I,o)∈imm∧(da o=true∧o0 o=false):=by
 cases h with
 |lst a b c d=>exact⟨_,a,by unfold da o0;rw[c];decide⟩
 |str a b c d=>exact⟨_,a,by unfold da o0;rw[c];rcases b with rfl|rfl<;>decide⟩
 |rng a=>exact⟨_,a,by dsimp only [da,o0,fO];decide⟩
theorem sz{Γ:ar}{E:Value→Shared→Prop}{s:Shared}{Q:Unit→Shared→Prop}(ht:ie t=true)(ho:s.heap.get? I=some o)(hi:da o=true∧o0 o=false)(k:Q () s):wpAny (model Γ.prog Γ.w) A (letOwnedTupleGo t (.ref I) v) Q E s:=by
 have go:∀ es q p,wpAny (model Γ.prog Γ.w) A (letOwnedTupleGo (.Tuple es q p) (.ref I) v) Q E s:=fun es q p=>by
  unfold letOwnedTupleGo;cases v with
  |ref a=>
   refine wpAny_bind (wpAny_load ho ?_);obtain⟨oc,od,odt,osl⟩:=o;dsimp only;unfold da o0 at hi;dsimp only at hi;cases oc with
   |type n=>
    cases odt with
    |fields vs=>
     dsimp only at hi ⊢;have hn:(["enumerate","zip","dict_itemiterator","dict_reverseitemiterator","odict_iterator","itertools.zip_longest","itertools.pairwise"].contains n)=false:=by
      rw[hi.2,Bool.false_or] at hi;replace hi:=hi.1;simp only [Bool.or_eq_true,beq_iff_eq] at hi;rcases hi with (((rfl|rfl)|rfl)|rfl)|rfl<;>decide
     rw[if_neg (by rw[hn,Bool.false_and];exact Bool.false_ne_true)];exact wpAny_pure k
    |_=>exact wpAny_pure k
   |_=>injection hi.1
  |_=>exact wpAny_pure k
 induction t using PySem.Expr.casesOn with
 |Name x p=>exact wpAny_pure k
 |Tuple es q p=>exact go es q p
 |ListComp e gs sc p=>
  unfold ie at ht;rw[show vE (.ListComp e gs sc p)=i7 e sc gs from rfl] at ht;rcases kS e sc gs with q|⟨_,_,_,q⟩<;>rw[q] at ht<;>injection ht
 |_=>exact Bool.noConfusion (show false=true from ht)
theorem wP(h:ty="str_iterator"∨ty="str_ascii_iterator"){o:Obj}(hc:o.cls=.type ty):da o=true:=by
 unfold da;rw[hc];rcases h with rfl|rfl<;>decide
end
section
variable {Γ:ar}{β:Bd}{Y:Pi}
theorem ao.item(h:ao Γ imm ρ vs xs)(i:Nat):match ak xs i with
  |some v=>∃ val,vs[i]?=some val∧VR Γ imm ρ val v
  |none=>vs[i]?=none:=by
 induction h using ao.ind generalizing i with
 |nil=>rfl
 |cons a _ ih=>
  cases i with
  |zero=>exact⟨_,rfl,a⟩
  |succ i=>exact ih i
theorem Uk{A:Around}{E:Value→Shared→Prop}{s:Shared}{Q:Option Value→Shared→Prop}(hh:A.handled=none)(hty:ty="str_iterator"∨ty="str_ascii_iterator")(hit:s.heap.IsStrIter it ty x t i)
  (h1:∀ c h',x.cps[i]?=some c→h'.IsStrIter it ty x t (i+1)→Heap.SameBut it s.heap h'→Q (some (.str ⟨#[c]⟩ s.toks)) {s with heap:=h',toks:=s.toks+1})
  (h2:∀ h',x.cps[i]?=none→Heap.ExtBut it s.heap h'→Q none {s with heap:=h'}):wpAny (model Γ.prog Γ.w) A (pyNext (.ref it)) Q E s:=by
 rcases hty with rfl|rfl
 ·cases e:x.cps[i]? with
  |some c=>exact wpAny_pyNext_wide_item hit e fun h' a b=>h1 c h' e a b
  |none=>exact wpAny_pyNext_wide_end hh hit e fun h' a=>h2 h' e a
 ·cases e:x.cps[i]? with
  |some c=>exact wpAny_pyNext_ascii_item hit e fun h' a b=>h1 c h' e a b
  |none=>exact wpAny_pyNext_ascii_end hh hit e fun h' a=>h2 h' e a
noncomputable def xr(Γ:ar)(c:Cx)(m:Str→Option Value)(ls:List (Str×AV))(σ:St)(imm:List (Addr×Obj))(cs:List CC)(I:Addr)(s:Shared)(Q:Option Value→Shared→Prop):Option (AV×It)→Prop
 |none=>∀ h' tk imm',aj Γ c.h₀ c.L h' m ls σ imm' cs→(∀ q∈imm,q.1≠I→q∈imm')→Q none {s with heap:=h',toks:=tk}
 |some (v,it')=>∀ h' tk imm' val,aj Γ c.h₀ c.L h' m ls σ imm' cs→(∀ q∈imm,q.1≠I→q∈imm')→ge imm' (ae cs) I it'→VR Γ imm' (ae cs) val v→Q (some val) {s with heap:=h',toks:=tk}
section
variable {σ:St}{c:Cx}{A:Around}{n:Nat}{s:Shared}{m:Str→Option Value}{ls:List (Str×AV)}{imm:List (Addr×Obj)}{cs:List CC}{I:Addr}{Q:Option Value→Shared→Prop}{E:Value→Shared→Prop}{o:Obj}
 (C:bp Γ c A n) (R:aj Γ c.h₀ c.L s.heap m ls σ imm cs) (a:(I,o)∈imm)
include C R a
theorem Pj{l:Addr}{kk i:Nat}{xs:List AV}(hx:ak σ kk=some (.list xs))(b:ak (ae cs) kk=some l)(c1:o.cls=.type "list_iterator")(d:o.data=.fields #[.ref l,.int i 0])(k:xr Γ c m ls σ imm cs I s Q (sd kk i xs)):wpAny (model Γ.prog Γ.w) A (pyNext (.ref I)) Q E s:=by
 have ho:da o=true:=by unfold da;rw[c1];decide
 apply dD (R.C.cell b hx);intro dd pre post e0 hl e2 cr;subst e0;apply eZ cr.list_inv;intro a2 vs nn e0 hvs hsz;subst e0;replace e2:a2=l:=e2;subst e2;have hL:s.heap.IsList a2 vs.toArray:=⟨_,(R.N _ (R.has (d:=.list a2 vs nn) (.head _))).1,rfl,_,rfl⟩;have hit:s.heap.IsListIter I a2 i:=⟨o,(R.N _ (bq _ a)).1,c1,d⟩;have hrel:=hvs.item i;unfold sd at k;cases hv:ak xs i with
 |some v=>
  rw[hv] at hrel k;apply ah hrel;intro val g1 g2;refine wpAny_pyNext_list_item hit hL (by rw[List.getElem?_toArray];exact g1) fun h' hit' hs=>?_;apply dh hit';intro o' ho' hc' hd';refine k h' s.toks _ val (R.putIter a ho hs.extBut ho') (fun q hq hn=>.tail _ (gC.mpr ⟨hq,nr hn⟩)) (.lst (.head _) b hc' hd') ?_;exact(g2.drop (R.keepsIter a ho)).mono (fun U h=>.tail _ h) fun U U h=>h
 |none=>
  rw[hv] at hrel k;refine wpAny_pyNext_list_end C.hd hit hL (by rw[List.getElem?_toArray];exact hrel) fun h' hs=>?_;exact k h' s.toks _ (R.dropIter a ho hs) fun q hq hn=>gC.mpr ⟨hq,nr hn⟩
theorem OT{x:Str}{t:Tok}{i:Nat}{ty:String}(b:ty="str_iterator"∨ty="str_ascii_iterator")(c1:o.cls=.type ty)(d:o.data=.fields #[.str x t,.int i 0])(k:xr Γ c m ls σ imm cs I s Q (Bi ((x.cps.toList.drop i).map fun c=>.str [.lit [c]]))):wpAny (model Γ.prog Γ.w) A (pyNext (.ref I)) Q E s:=by
 have ho:da o=true:=wP b c1;have hit:s.heap.IsStrIter I ty x t i:=⟨o,(R.N _ (bq _ a)).1,c1,d⟩;refine Uk C.hd b hit (fun cc h' hc hit' hs=>?_) fun h' hc hs=>?_
 ·obtain⟨o',ho',hc',hd'⟩:=hit'
  have e:x.cps.toList.drop i=cc::x.cps.toList.drop (i+1):=by
   have:x.cps.toList[i]?=some cc:=by rw[Array.getElem?_toList];exact hc
   obtain⟨hlt,hv⟩:=List.getElem?_eq_some_iff.mp this;rw[List.drop_eq_getElem_cons hlt,hv]
  rw[e] at k;refine k h' _ _ _ (R.putIter a ho hs.extBut ho') (fun q hq hn=>.tail _ (gC.mpr ⟨hq,nr hn⟩)) (.str (.head _) b hc' hd') ?_;exact .str rfl (gG [cc]) (show 1≤16777216 by decide)
 ·have e:x.cps.toList.drop i=[]:=by
   have:x.cps.toList[i]?=none:=by rw[Array.getElem?_toList];exact hc
   exact List.drop_eq_nil_iff.mpr (List.getElem?_eq_none_iff.mp this)
  rw[e] at k;exact k h' s.toks _ (R.dropIter a ho hs) fun q hq hn=>gC.mpr ⟨hq,nr hn⟩
end
theorem Sv{s:Shared}{Q:Option Value→Shared→Prop}{E:Value→Shared→Prop}
  (C:bp Γ c A nn) (R:aj Γ c.h₀ c.L s.heap m ls σ imm cs) (a:(I,fO i n)∈imm) (k:xr Γ c m ls σ imm cs I s Q (Bi (uB i n))):wpAny (model Γ.prog Γ.w) A (pyNext (.ref I)) Q E s:=by
 have ho:da (fO i n)=true:=by dsimp only [da,fO];decide
 have hg:=(R.N _ (bq _ a)).1;cases n with
 |zero=>exact wpAny_pyNext_range_end C.hd (x:=(i:Int)) (left:=0) (step:=1) hg (bz _) fun h' hs=>k h' s.toks _ (R.dropIter a ho hs) fun q hq hn=>gC.mpr ⟨hq,nr hn⟩
 |succ n=>
  refine wpAny_pyNext_range_item (x:=(i:Int)) (left:=((n+1:Nat):Int)) (step:=1) hg (by lia) fun h' hit' hs=>?_;have hit':h'.get? I=some (fO (i+1) n):=by
   have e1:((n+1:Nat):Int)-1=(n:Int):=by lia
   have e2:(i:Int)+1=((i+1:Nat):Int):=by lia
   replace hit':h'.get? I=some {cls:=.type "range_iterator",data:=.fields #[rawInt ((i:Int)+1),rawInt (((n+1:Nat):Int)-1),rawInt 1]}:=hit';rw[e1,e2] at hit';exact hit'
  exact k h' _ _ _ (R.putIter a ho hs.extBut hit') (fun q hq hn=>.tail _ (gC.mpr ⟨hq,nr hn⟩)) (.rng (.head _)) (.int (bV _).symm)
theorem r8(h:kJ σ it=some r){s:Shared}{Q:Option Value→Shared→Prop}{E:Value→Shared→Prop}
  (C:bp Γ c A n) (R:aj Γ c.h₀ c.L s.heap m ls σ imm cs) (hi:ge imm (ae cs) I it) (k:xr Γ c m ls σ imm cs I s Q r):wpAny (model Γ.prog Γ.w) A (pyNext (.ref I)) Q E s:=by
 cases hi with
 |lst a b c1 d=>
  apply aI h;clear h;intro xs hx h;rw[←osI h] at k;exact Pj C R a (g6 hx) b c1 d k
 |str a b c1 d=>rw[←osI h] at k;exact OT C R a b c1 d k
 |rng a=>rw[←osI h] at k;exact Sv C R a k
end
end
section
section
variable {Γ:ar}{β:Bd}{Y:Pi}
noncomputable def sk(Γ:ar)(n:Nat)(fo:ac→St→Expr→It→List Stmt→Option (Fl×ac×St)):Prop :=
 ∀ {ls σ it t b f ls' σ'},fo ls σ t it b=some (f,ls',σ')→ie t=true→∀ {c A s m imm cs I} {Rq:Result→Shared→Prop},bp Γ c A n→cK c ls→aj Γ c.h₀ c.L s.heap m ls.v σ imm cs→ge imm (ae cs) I it →
  (∀ h' tk m' imm' cs' fl,aj Γ c.h₀ c.L h' m' ls'.v σ' imm' cs'→cK c ls'→nM I imm cs imm' cs'→FR Γ imm' cs' fl f→Rq (.ok fl) {s with heap:=h',toks:=tk})→codeAny (model Γ.prog Γ.w) A (.forLoop t (.ref I) b [] c.env) Rq s
theorem Uf(S:gM Γ n R)(F:sk Γ n R.fo):sk Γ n (DD Y R):=by
 intro ls σ it t b f ls' σ' h hn c A s m imm cs I Rq C l Rp hi k;apply aI h;clear h;intro r h1 h;refine lc (r8 h1 C Rp hi ?_);induction r using oO with
 |none=>
  (apply j3 h;rintro rfl rfl rfl);intro h' tk imm' R' x';exact wpAny_execs_nil (k h' tk m imm' cs _ R' l ⟨x',fun U U h=>h⟩ .next)
 |some q=>
  obtain⟨v,it'⟩:=q;apply b5 h;clear h;intro ls1 σ1 h2 h;apply v7 h;clear h;intro f1 ls2 σ2 h3 h;intro h' tk imm' val R' x' i' hv;apply ah i'.obj;intro o1 o2 o3;refine sz hn (s:={s with heap:=h',toks:=tk}) (R'.N _ (bq _ o2)).1 o3 ?_;refine S.asg h2 C l (s:={s with heap:=h',toks:=tk}) R' hv fun ha ta ma ia ca Ra la xa=>?_;refine S.exs h3 C la (s:={s with heap:=ha,toks:=ta}) Ra fun hz tz mz iz cz fl Rz lz xz fz=>?_;have xt:aH imm' cs iz cz:=xa.trans xz;have xI:nM I imm cs iz cz:=⟨fun q hq hne=>xt.i q (x' q hq hne),xt.r⟩;have again:R.fo ls2 σ2 t it' b=some (f,ls',σ')→codeAny (model Γ.prog Γ.w) A (.forLoop t (.ref I) b [] c.env) Rq {s with heap:=hz,toks:=tz}:=fun h=>
   F h hn C lz (s:={s with heap:=hz,toks:=tz}) Rz (i'.ext xt) fun h2 t2 m2 i2 c2 fl R2 l2 x2 f2=>k h2 t2 m2 i2 c2 fl R2 l2 ⟨fun q hq hne=>x2.i q (xI.i q hq hne) hne,fun k a h=>x2.r k a (xI.r k a h)⟩ f2
  induction f1 using Fl.casesOn with
  |next=>(obtain e:_=_:=FR.inv fz;subst e);exact again h
  |ret v=>(apply j3 h;rintro rfl rfl rfl);obtain⟨_,e0,hv⟩:=FR.inv fz;clear fz;subst e0;exact k hz tz mz iz cz _ Rz lz xI (.ret hv)
theorem mG{s:SS}(h:s.conc=some l):s.val Γ.ε=l:=by rw[iE h]
set_option tactic.hygienic true in
theorem Fm{R:aR}(F:sk Γ n R.fo):zJ Γ n R:=by
 intro ls σ v it t b f ls' σ' hi h c A s m imm cs va ex Q E C l Rp hv hs hn k;have hfold:foldedSetIterable ex c.env va=pure va:=by
  unfold foldedSetIterable;induction ex using PySem.Expr.casesOn<;>first|rfl|(exact(A2 hs).elim)|(exact Bool.noConfusion (show false=true from hs))
 refine wpAny_bind (sJ hfold (wpAny_pure (wpAny_bind (wpAny_standAt (wpAny_bind (wpAny_holding ?_))))));have go:∀ {o:Obj},da o=true→o.isFreed=false→ge ((s.heap.objs.size,o)::imm) (ae cs) s.heap.objs.size it→wpAny (model Γ.prog Γ.w) A (runOwn (.forLoop t (.ref s.heap.objs.size) b [] c.env) c.env) Q E {s with heap:=s.heap.push o}:=by
  intro o ho hfr hit;refine wpAny_runOwn (F h hn C l (s:={s with heap:=s.heap.push o}) (Rp.newI o hfr) hit fun h' tk m' imm' cs' fl R' l' x' f'=>?_);refine k h' tk m' imm' cs' fl R' l' ⟨fun q hq=>x'.i q (.tail _ hq) fun e=>?_,x'.r⟩ f';have:=Heap.lt_size (Rp.N q (bq _ hq)).1;rw[e] at this;exact Nat.lt_irrefl _ this
 induction v using AV.casesOn with
 |cell kk=>
  apply aI (show (ob (eq σ kk) fun _=>some (It.lst kk 0))=some it from hi);clear hi;intro xs hx hi;(apply j1 hi;clear hi;rintro rfl);apply ah hv.cell_inv;intro a e0 ha;subst e0;apply dD (Rp.C.cell ha (g6 hx));intro dd pre post e0 hl e2 cr;subst e0;apply eZ cr.list_inv;intro a2 vs nn e0 hvs hsz;subst e0;replace e2:a2=a:=e2;subst e2;refine wpAny_pyIter_list (items:=vs.toArray) ⟨_,(Rp.N _ (Rp.has (d:=.list a2 vs nn) (.head _))).1,rfl,_,rfl⟩ ?_;exact go (by dsimp only [da];decide) rfl (.lst (.head _) ha rfl rfl)
 |str ss=>
  apply aI (show (ob ss.conc fun l=>some (It.vals (l.map fun c=>.str [.lit [c]])))=some it from hi);clear hi;intro q hq hi;(apply j1 hi;clear hi;rintro rfl);apply ah hv.str_inv;intro tt e0 hok;subst e0;have e:(aG (ss.val Γ.ε)).cps.toList.drop 0=q:=by rw[List.drop_zero,mG hq];rfl
  have go2:∀ ty,(ty="str_iterator"∨ty="str_ascii_iterator")→wpAny (model Γ.prog Γ.w) A (runOwn (.forLoop t (.ref s.heap.objs.size) b [] c.env) c.env) Q E {s with heap:=s.heap.push {cls:=.type ty,data:=.fields #[.str (aG (ss.val Γ.ε)) tt,.int 0 0]}}:=fun ty hty=>by
   refine go (wP hty rfl) rfl ?_;have:=ge.str (imm:=(s.heap.objs.size,({cls:=.type ty,data:=.fields #[.str (aG (ss.val Γ.ε)) tt,.int 0 0]}:Obj))::imm) (ρ:=ae cs) (I:=s.heap.objs.size) (i:=0) (.head _) hty rfl rfl;rw[e] at this;exact this
  cases ha:(aG (ss.val Γ.ε)).cps.all (·<128) with
  |true=>exact wpAny_pyIter_ascii ha (go2 _ (.inr rfl))
  |false=>exact wpAny_pyIter_wide ha (go2 _ (.inl rfl))
 |rng n=>
  (apply j1 hi;clear hi;rintro rfl);apply ow hv.inv;intro aa tt uu vv e0 hb hle;subst e0
  ·have hr:IsRange s.heap aa 0 (n:Int) 1 tt uu vv:=(Rp.N _ (bq _ hb)).1
   have hsz:Builtin.Range.rangeSize 0 (n:Int) 1=(n:Int):=by
    rw[rangeSize_one]
    split<;>lia
   refine wpAny_pyIter_range hr ?_ ?_
   ·exact small_one (by lia) (by lia) (by lia) (by lia)
   ·rw[hsz]
    exact go (by dsimp only [da];decide) rfl (.rng (.head _))
 |_=>injection hi
end
end
section
section
variable {Γ:ar}{β:Bd}{Y:Pi}
theorem aH.snoc(imm:List (Addr×Obj))(cs:List CC)(d:CC):aH imm cs imm (cs++[d]):=⟨fun U h=>h,fun k a h=>by rw[rx];exact Bg h⟩
theorem aj.newL(R:aj Γ h₀ L h m ls σ imm cs)(hv:ao Γ imm (ae cs) vs xs)(hn:xs.length≤200000) :
  aj Γ h₀ L (h.push (listOf vs.toArray 0)) m ls (σ++[.list xs]) imm (cs++[.list h.objs.size vs 0]):=by
 have e:=aH.snoc imm cs (.list h.objs.size vs 0);refine⟨R.F.push _,fun q hq=>?_,?_,(R.C.mono e.i e.r).snoc (.list (hv.ext e) hn),fun x v hx=>?_⟩
 ·have hq':q∈(h.objs.size,listOf vs.toArray 0)::(imm++aL cs):=by
   rw[nG,←aX] at hq;rcases ey hq with a|a
   ·exact .tail _ a
   ·have:q∈[(h.objs.size,listOf vs.toArray 0)]:=by simpa [aL,CC.objs] using a
    rw[cH this];exact .head _
  exact(R.N.push R.F (listOf vs.toArray 0)) q hq'
 ·rw[nG,←aX,List.map_append]
  refine List.nodup_append.mpr ⟨R.nd,List.nodup_cons.mpr ⟨fun q=>(nomatch q),.nil⟩,fun a ha b hb=>?_⟩;replace hb:b=h.objs.size:=cH hb;rw[hb];exact Nat.ne_of_lt (R.lt ha)
 ·apply ah (R.l x v hx);intro val a b
  exact⟨val,a,b.ext e⟩
theorem zy{h:Heap}(C:bu Γ imm ρ cs σ):VR Γ imm (ae (cs++[.list h.objs.size vs 0])) (.ref h.objs.size) (.cell (aA σ)):=by
 refine .cell ?_;rw[rx,b7,←C.len];have:=z9 (ae cs) h.objs.size
 rwa [show (ae cs).length=cs.length from List.length_map ..] at this
theorem Q6(I:bW Γ n R)
  (h:HD R ls σ es=some (r,σ')):b9 Γ n (fun c=>eval (.List es pos) c.env) ls σ r σ':=by
 apply b5 h;clear h;intro vs σ1 h1 h;apply bJ h;clear h;intro h2 h;(apply j2 h;clear h;rintro rfl rfl);apply aN (I.evs h1);intro ns g;have hz:=df h2;rw[b7] at hz;intro c A s m imm cs Q E C l Rp k;show wpAny _ _ (standAt pos >>= fun U=>spliced (backTo pos (starEach es c.env)) >>= fun v=>newList v) _ _ _;refine wpAny_bind (wpAny_standAt (wpAny_bind ?_));rw[ut pos ns.1];refine g C l Rp fun hx tx ix cx x Rx xx qx=>wpAny_newList ?_ (by rw[qx.len,sizeLine_eq];lia);exact k _ tx _ _ _ (Rx.newL qx (by lia)) (xx.trans (aH.snoc ..)) (zy Rx.C)
theorem ao.app(g:ao Γ imm ρ vs xs)(h:ao Γ imm ρ us ys):ao Γ imm ρ (vs++us) (xs++ys):=by
 induction g using ao.ind with
 |nil=>exact h
 |cons a _ ih=>exact .cons a ih
theorem Cn(hx:ak σ k=some (.list xs))(hz:aA xs≤100000){s:Shared}{Q E:Value→Shared→Prop}
  (_C:bp Γ c A n) (R:aj Γ c.h₀ c.L s.heap m ls σ imm cs) (ho:VR Γ imm (ae cs) va (.cell k)) (hv:VR Γ imm (ae cs) val v)
  (kk:∀ h' imm' cs',aj Γ c.h₀ c.L h' m ls (dS σ k (.list (xs++[v]))) imm' cs'→aH imm cs imm' cs'→Q .none {s with heap:=h'}):wpAny (model Γ.prog Γ.w) A (call (.builtin "list.append") [va,val] []) Q E s:=by
 apply ah ho.cell_inv;intro a e0 ha;subst e0;apply dD (R.C.cell ha hx);intro d pre post e0 l e2 cr;subst e0;apply eZ cr.list_inv;intro b vs nn e0 hvs hsz;subst e0;(obtain e:=CC.same e2;subst e);rw[b7] at hz;have e:∀ z:List Value×Nat,imm++aL (pre++CC.list b z.1 z.2::post)=(imm++aL pre)++(b,listOf z.1.toArray z.2)::aL post:=fun z=>by rw[ny];simp [CC.objs]
 have N:=R.N;have nd:=R.nd;rw[e (vs,nn)] at N nd;refine append_K (n:=nn) R.F N (sx nd) (fun h' F' N'=>?_) (by rw[List.size_toArray,hvs.len,sizeLine_eq];lia);refine kk h' imm (pre++CC.list b (vs++[val]) (nn+1)::post) ?_ (aH.put imm pre post _ _ rfl);rw[←l];refine R.put rfl rfl F' (by have z:=e (vs++[val],nn+1);dsimp only at z;rw[z];rw[List.push_toArray] at N';exact N') (.list (hvs.app (.cons hv .nil)) (by rw[ax,List.length_singleton];lia))
theorem Me(hx:ak σ k=some (.rows t q))(hz:q.val Γ.ε≤1000000){s:Shared}{Q E:Value→Shared→Prop}
  (_C:bp Γ c A n) (R:aj Γ c.h₀ c.L s.heap m ls σ imm cs) (ho:VR Γ imm (ae cs) va (.cell k)) (hv:VR Γ imm (ae cs) val (.str r))
  (kk:∀ h' imm' cs',aj Γ c.h₀ c.L h' m ls (dS σ k (.rows (t.app r) (q.add (.k 1)))) imm' cs'→aH imm cs imm' cs'→Q .none {s with heap:=h'}):wpAny (model Γ.prog Γ.w) A (call (.builtin "list.append") [va,val] []) Q E s:=by
 apply ah ho.cell_inv;intro a e0 ha;subst e0;apply dD (R.C.cell ha hx);intro d pre post e0 l e2 cr;subst e0;apply dD cr.rows_inv;intro b vs nn e0 hvs hok hsz;subst e0;(obtain e:=CC.same e2;subst e);apply ah hv.str_inv;intro tt e0 hro;subst e0;have e:∀ z:List Value×Nat,imm++aL (pre++CC.list b z.1 z.2::post)=(imm++aL pre)++(b,listOf z.1.toArray z.2)::aL post:=fun z=>by rw[ny];simp [CC.objs]
 have N:=R.N;have nd:=R.nd;rw[e (vs,nn)] at N nd;refine append_K (n:=nn) R.F N (sx nd) (fun h' F' N'=>?_) (by rw[List.size_toArray,sizeLine_eq];show vs.length≤_;lia);refine kk h' imm (pre++CC.list b (vs++[.str (aG (r.val Γ.ε)) tt]) (nn+1)::post) ?_ (aH.put imm pre post _ _ rfl);rw[←l];refine R.put rfl rfl F' (by have z:=e (vs++[.str (aG (r.val Γ.ε)) tt],nn+1);dsimp only at z;rw[z];rw[List.push_toArray] at N';exact N') (.rows ?_ (kK hok hro) (by rw[ax,List.length_singleton,gQ,bV];lia));rw[fG];exact .snoc hvs
end
end
section
section
variable {Γ:ar}{β:Bd}{Y:Pi}
theorem rC(h:jr i=true):i.natAbs≤1000001:=by
 exact Nat.le_succ_of_le (df h)
set_option tactic.hygienic true in
theorem Pq(h:jr i=true):Builtin.Int.intBits i≤64:=by
 have:=rC h;unfold Builtin.Int.intBits
 split
 ·lia
 ·rename_i q
  have hz:i.natAbs≠0:=by simpa using q
  have:i.natAbs.log2<63:=(Nat.log2_lt hz).mpr (by lia);lia
theorem Nb(m:Int):∀ l:List (Nat×Int),bY ε (l.map fun p=>(p.1,p.2*m))=bY ε l*m:=by
 intro L0;induction L0 with
 |nil=>
  exact(Int.zero_mul m).symm
 |cons x0 r ih=>
  obtain⟨v,a⟩:=x0;show a*m*ε.iv v+bY ε (r.map _)=(a*ε.iv v+bY ε r)*m;rw[ih,Int.add_mul,Int.mul_assoc,Int.mul_comm m,←Int.mul_assoc]
theorem Ld(x:am)(m:Int):(x.smul m).val ε=x.val ε*m:=by
 show x.c*m+bY ε (x.l.map _)=(x.c+bY ε x.l)*m;rw[Nb,Int.add_mul]
theorem UM{x y:am}(hy:y.conc=some j)(hs:jr j=true):gZ Γ (binaryOp .Mult) (.int x) (.int y) (.int (x.smul j)):=by
 intro A s Q E imm ρ va vb ha hb k;apply bx ha.int_inv;intro t e0;subst e0;apply bx hb.int_inv;intro u e0;subst e0;rw[gb hy];exact mul_int (k _ _ (.int (Ld _ _).symm)) (.of_right (Pq hs))
set_option smartUnfolding false in
theorem MT(hm:0<m):∀ {l:List (Nat×Int)},kR m l=true→bY ε l=(m:Int)*bY ε (l.map fun p=>(p.1,Int.fdiv p.2 (.ofNat m))):=by
 intro L0;induction L0 with
 |nil=>
  intro _;exact(Int.mul_zero _).symm
 |cons x0 r ih=>
  obtain⟨v,a⟩:=x0;intro h;replace h:=aB (show (Nat.beq (a.natAbs % m) 0&&kR m r)=true from h);have h1:a.natAbs % m=0:=bX h.1;have h2:(m:Int) ∣ a:=Int.ofNat_dvd_left.mpr (Nat.dvd_of_mod_eq_zero h1);have h3:(m:Int)*a.fdiv m=a:=Int.mul_fdiv_cancel' h2;show a*ε.iv v+bY ε r=(m:Int)*(Int.fdiv a m*ε.iv v+bY ε (r.map fun p=>(p.1,Int.fdiv p.2 (.ofNat m))));rw[ih h.2,Int.mul_add,←Int.mul_assoc,h3]
theorem Mv{x y:am}(hx:kR m x.l=true)(hy:y.conc=some (Int.ofNat m))(hm:0<m)(hs:jr (.ofNat m)=true):gZ Γ (binaryOp .FloorDiv) (.int x) (.int y) (.int (x.fdv m)):=by
 intro A s Q E imm ρ va vb ha hb k;apply bx ha.int_inv;intro t e0;subst e0;apply bx hb.int_inv;intro u e0;subst e0;rw[gb hy];refine floordiv_int (by show (m:Int)≠0;lia) (k _ _ (.int ?_)) (.inl (PyProof.noPylong_small ?_))
 ·show Int.fdiv (x.c+bY Γ.ε x.l) m=Int.fdiv x.c m+bY Γ.ε (x.l.map fun p=>(p.1,Int.fdiv p.2 (.ofNat m)))
  rw[MT hm hx,Int.add_mul_fdiv_left _ _ (by lia)]
 ·have:=rC hs;lia
theorem vm(n:Nat)(l:List Nat):(jR n l).length=n*l.length:=by
 induction n with
 |zero=>exact(Nat.zero_mul _).symm
 |succ n ih=>show (l++jR n l).length=_;rw[ax,ih,Nat.succ_mul];lia
theorem Di(l:List Nat):∀ (n:Nat) (acc:Array Nat),((List.replicate n l.toArray).foldl (·++·) acc).toList=acc.toList++jR n l
 |0,acc=>(af _).symm
 |n+1,acc=>by
  rw[List.replicate_succ,List.foldl_cons,Di l n,Array.toList_append,aX];rfl
set_option tactic.hygienic true in
theorem Jj(l:List Nat)(n:Nat):Txt.mul (aG l) (Int.ofNat n)=aG (jR n l):=by
 unfold Txt.mul
 by_cases h1:Int.ofNat n<1
 ·rw[if_pos h1]
  have:n=0:=by have:(n:Int)<1:=h1;lia
  subst this;rfl
 ·rw[if_neg h1]
  split
  ·rename_i h2
   rcases Bool.or_eq_true_iff.mp h2 with h2|h2
   ·have:n=1:=by have:=beq_iff_eq.mp h2;have:(n:Int)=1:=this;lia
    subst this;show aG l=aG (l++[]);rw[af]
   ·have:=beq_iff_eq.mp h2
    rw[eM] at this;have:=List.eq_nil_of_length_eq_zero this;subst this;have e:∀ n,jR n ([]:List Nat)=[]:=fun n=>by induction n with|zero=>rfl|succ n ih=>exact ih
    rw[e]
  ·have:=Di l n #[]
   show (⟨_⟩ : Str)=⟨_⟩
   congr 1
   apply Array.toList_inj.mp;show ((List.replicate n l.toArray).foldl (·++·) #[]).toList=_;rw[this];simp
set_option tactic.hygienic true in
theorem Iu{l:List Nat}(h:n*l.length≤1000000)(hn:n≤1000001):MulOk (aG l) (Int.ofNat n):=by
 refine⟨?_,fun _ _=>?_,fun _ _=>?_⟩
 ·have:((n:Int)<2 ^ 63):=by lia
  have h2:¬ ((n:Int) < -(2 ^ 63)):=by lia
  show (decide ((n:Int) < -(2 ^ 63)) ||decide ((n:Int)≥2 ^ 63))=false;simp;lia
 ·rename_i h1 _
  have hn0:(0:Int)<(n:Int):=by have:¬ ((n:Int)<1):=h1;lia
  have:(((aG l).length:Nat):Int)≤(2 ^ 63-1) / (n:Int):=by
   refine Int.le_ediv_of_mul_le hn0 ?_;rw[eM];have:(l.length:Int)*(n:Int)=((n*l.length:Nat):Int):=by rw[Int.natCast_mul,Int.mul_comm]
   rw[this];lia
  exact Int.not_lt.mpr this
 ·show decide (_>sizeLine)=false
  rw[eM,sizeLine_eq,decide_eq_false_iff_not];have:l.length*(Int.ofNat n).toNat=n*l.length:=by rw[Nat.mul_comm];rfl
  rw[this];lia
theorem Dj(ch:Nat):∀ n,jR n [ch]=List.replicate n ch
 |0=>rfl
 |n+1=>by show ch::jR n [ch]=_;rw[Dj ch n];rfl
theorem Tu(he:Γ.ε.Ok)(hb:aM β Γ.ε)(h:Gx β s b=some r):gZ Γ (binaryOp .Mult) (.str s) b r:=by
 apply aI h;clear h;intro l hl h;apply aI h;intro n e hj;(obtain e:=gE e;subst e);clear h;have put:∀ {ss:SS} {m:Int},n.val Γ.ε=m→cG Γ.ε ss→(ss.val Γ.ε).length≤16777216→MulOk (aG l) m→Txt.mul (aG l) m=aG (ss.val Γ.ε)→gZ Γ (binaryOp .Mult) (.str s) (.int n) (.str ss):=fun e1 e2 e3 e4 e5=>by
  intro A st Q E imm ρ va vb ha hb' k;apply ah ha.str_inv;intro t e0 o1;subst e0;apply bx hb'.int_inv;intro u e0;subst e0;rw[mG hl,e1];refine SB.mul e4 fun t' k'=>?_;rw[e5];exact k k' _ (.str rfl e2 e3)
 cases hn:n.conc with
 |some m=>
  rw[hn] at hj;cases m with
  |ofNat m=>
   apply bJ (show y9 β l (.ofNat m)=some r from hj);intro g h;have hz:=tH he hb (gG _) h;apply aN (rI h);intro e0 _;subst e0;rw[db,vm] at hz;exact @put (SS.k (jR m l)) _ (gb hn) (gG _) (by rw[db,vm];lia) (Iu hz (rC g)) (by rw[Jj,db])
  |negSucc m=>
   apply bJ (show y9 β l (.negSucc m)=some r from hj);intro g h;(apply j1 h;clear h;rintro rfl);have hs:=rC g;have h0:=Int.negSucc_lt_zero m;refine @put [] _ (gb hn) (fun U h=>(nomatch h)) (by show 0≤_;lia) ⟨?_,fun h1=>absurd h0 (fun z=>h1 (by lia)),fun h1=>absurd h0 (fun z=>h1 (by lia))⟩ (by unfold Txt.mul;rw[if_pos (by lia)];rfl);rw[Bool.or_eq_false_iff,decide_eq_false_iff_not,decide_eq_false_iff_not];constructor<;>lia
 |none=>
  rw[hn] at hj;apply aI (show H0 β l n=some r from hj);intro ch h1 h;apply aI h;clear h;intro neg h2 h;apply bJ h;clear h;intro h3 h;(obtain e:=k9 h1;subst e);have hneg:neg=false:=by induction neg using oB<;>first|rfl|injection h3
  subst hneg;have h0:0≤n.val Γ.ε:=by
   have:=ul hb h2;have z:(am.k 0).val Γ.ε=0:=bV 0;rw[z] at this;simpa using this
  have hso:cG Γ.ε [.rep ch n]:=fun q hq=>by rw[cH hq];exact h0
  have hz:=tH he hb hso h;apply aN (rI h);intro e0 _;subst e0;apply bx (Int.eq_ofNat_of_zero_le h0);intro m hm;have hv:SS.val Γ.ε [.rep ch n]=jR m [ch]:=by
   rw[Dj];show List.replicate (n.val Γ.ε).toNat ch++[]=_;rw[hm,af];rfl
  rw[hv,vm] at hz;exact @put [.rep ch n] (Int.ofNat m) hm hso (by rw[hv,vm];lia) (Iu hz (by simp at hz;lia)) (by rw[Jj,hv])
end
end
section
section
variable {Γ:ar}{β:Bd}{Y:Pi}
noncomputable def w1(Γ:ar):Prop:=∀ {f:SS} {b r:AV},Cu f b=some r→gZ Γ (binaryOp .Mod) (.str f) b r
theorem Ik(h:AM i=some m):i=Int.ofNat m∧0<m:=by
 cases i with
 |ofNat n=>
  cases n with
  |zero=>injection h
  |succ n=>exact osI h▸⟨rfl,Nat.succ_pos _⟩
 |negSucc n=>injection h
noncomputable abbrev B2 (Γ:ar) (op:Operator) (a b r:AV):Prop:=gZ Γ (binaryOp op) a b r
section
variable {a b:AV}
theorem KF(he:Γ.ε.Ok)(hb:aM β Γ.ε):OB (FI β a b) (B2 Γ .Add a b):=by
 induction a using AV.casesOn with
 |int x=>exact OB.ob (m:=eG b) (f:=fun y=>some (AV.int (x.add y))) fun y h1=>by (obtain e:=gE h1;subst e);exact OB.pure fun ha hb2 k=>JA ha hb2 k
 |str x=>exact OB.ob (m:=jw b) (f:=fun y=>gP β (x.app y)) fun y h1 r h=>by (obtain e:=ni h1;subst e);exact fun ha hb2 k=>(Rv he hb h) ha hb2 k
 |_=>exact OB.no
theorem Pm:OB (yJ a b) (B2 Γ .Sub a b):=OB.ob fun x h1=>OB.ob fun y h2=>by (obtain e:=gE h1;subst e);(obtain e:=gE h2;subst e);exact OB.pure fun ha hb2 k=>SN ha hb2 k
theorem Jy(he:Γ.ε.Ok)(hb:aM β Γ.ε):OB (FO β a b) (B2 Γ .Mult a b):=by
 induction a using AV.casesOn with
 |int x=>
  show OB (Fg x b) _;exact OB.ob fun j h2=>OB.gd fun h3=>by
   apply ah (kd h2);intro y e0 hy;subst e0;exact OB.pure fun ha hb2 k=>UM hy h3 ha hb2 k
 |str s=>exact fun r h=>Tu he hb h
 |_=>exact OB.no
theorem Lq:OB (IV a b) (B2 Γ .FloorDiv a b):=OB.ob fun x h1=>OB.ob fun j h2=>OB.gd fun h3=>OB.ob fun m h4=>OB.gd fun h5=>by
 (obtain e:=gE h1;subst e);apply ah (kd h2);intro y e0 hy;subst e0;apply aN (Ik h4);intro e0 hm;subst e0;exact OB.pure fun ha hb2 k=>Mv h5 hy hm h3 ha hb2 k
theorem TG(hf:w1 Γ):OB (DS a b) (B2 Γ .Mod a b):=by
 induction a using AV.casesOn with
 |int x=>
  show OB (Iv x b) _;exact OB.ob fun j h2=>OB.ob fun m h4=>OB.gd fun h1=>by
   apply ah (kd h2);intro y e0 hy;subst e0;apply aN (Ik h4);intro e0 hm;subst e0;exact OB.pure fun ha hb2 k=>S9 h1 hy hm ha hb2 k
 |str s=>exact fun r h=>hf h
 |_=>exact OB.no
theorem Px(he:Γ.ε.Ok)(hb:aM β Γ.ε)(hf:w1 Γ)(h:sY β op a b=some r):B2 Γ op a b r:=by
 cases op with
 |Add=>exact KF he hb r h
 |Sub=>exact Pm r h
 |Mult=>exact Jy he hb r h
 |FloorDiv=>exact Lq r h
 |Mod=>exact TG hf r h
 |_=>injection h
end
noncomputable def CN(Γ:ar):Prop :=
 ∀ {σ i j xs ys},ak σ i=some (.list xs)→ak σ j=some (.list ys)→aA xs+aA ys≤100000→∀ {c A s m ls imm cs va vb} {n:Nat} {Q E:Value→Shared→Prop},bp Γ c A n→aj Γ c.h₀ c.L s.heap m ls σ imm cs→VR Γ imm (ae cs) va (.cell i)→VR Γ imm (ae cs) vb (.cell j) →
  (∀ h' tk cs' val,aj Γ c.h₀ c.L h' m ls (σ++[.list (xs++ys)]) imm cs'→aH imm cs imm cs'→VR Γ imm (ae cs') val (.cell (aA σ))→Q val {s with heap:=h',toks:=tk})→wpAny (model Γ.prog Γ.w) A (binaryOp .Add va vb) Q E s
noncomputable def Go(Γ:ar):Prop :=
 ∀ {σ i xs} {y:am} {j:Int},ak σ i=some (.list xs)→y.conc=some j→jr j=true→aA xs*ql j≤100000→∀ {c A s m ls imm cs va vb} {n:Nat} {Q E:Value→Shared→Prop},bp Γ c A n→aj Γ c.h₀ c.L s.heap m ls σ imm cs→VR Γ imm (ae cs) va (.cell i)→VR Γ imm (ae cs) vb (.int y) →
  (∀ h' tk cs' val,aj Γ c.h₀ c.L h' m ls (σ++[.list (jU (ql j) xs)]) imm cs'→aH imm cs imm cs'→VR Γ imm (ae cs') val (.cell (aA σ))→Q val {s with heap:=h',toks:=tk})→wpAny (model Γ.prog Γ.w) A (binaryOp .Mult va vb) Q E s
theorem RM(he:Γ.ε.Ok)(hb:aM Y.β Γ.ε)(hf:w1 Γ)(hl:CN Γ)(hm:Go Γ)(I:bW Γ n R)
  (h:Hf Y R ls σ el op er=some (r,σ')):b9 Γ n (fun c=>eval (.BinOp el op er pos) c.env) ls σ r σ':=by
 apply b5 h;clear h;intro a σ1 h1 h;apply b5 h;clear h;intro b σ2 h2 h;cases q:ib a with
 |none=>
  rw[q] at h;apply aI (show GX Y op a b σ2=some (r,σ') from h);clear h;intro r' h3 h;(apply j2 h;clear h;rintro rfl rfl);exact Sn (I.ev h1) (I.ev h2) (Px he hb hf h3)
 |some i=>
  rw[q] at h;(obtain e:=kl q;subst e);cases op with
  |Add=>
   apply aI (show F7 σ2 i b=some (r,σ') from h);clear h;intro j h3 h;apply aI h;clear h;intro x h4 h;apply aI h;clear h;intro y h5 h;apply bJ h;clear h;intro h7 h;(apply j2 h;clear h;rintro rfl rfl);(obtain e:=kl h3;subst e);intro c A s m imm cs Q E C l Rp k;refine wpAny_BinOp (I.ev h1 C l Rp fun hx tx ix cx va Rx xx qx=>I.ev h2 C l (s:={s with heap:=hx,toks:=tx}) Rx fun hy ty iy cy vb Ry xy qy=>?_);exact hl (g6 h4) (g6 h5) (df h7) C (s:={s with heap:=hy,toks:=ty}) Ry (qx.ext xy) qy fun h' tk cs' val R' x' q'=>k h' tk iy cs' val R' (xx.trans (xy.trans x')) q'
  |Mult=>
   apply aI (show EC σ2 i b=some (r,σ') from h);clear h;intro j h3 h;apply aI h;clear h;intro x h4 h;apply bJ h;clear h;intro h5 h;apply bJ h;clear h;intro h7 h;(apply j2 h;clear h;rintro rfl rfl);apply ah (kd h3);intro y e0 hy;subst e0;intro c A s m imm cs Q E C l Rp k;refine wpAny_BinOp (I.ev h1 C l Rp fun hx tx ix cx va Rx xx qx=>I.ev h2 C l (s:={s with heap:=hx,toks:=tx}) Rx fun hy' ty iy cy vb Ry xy qy=>?_);exact hm (g6 h4) hy h5 (df h7) C (s:={s with heap:=hy',toks:=ty}) Ry (qx.ext xy) qy fun h' tk cs' val R' x' q'=>k h' tk iy cs' val R' (xx.trans (xy.trans x')) q'
  |_=>injection h
end
end
section
section
variable {Γ:ar}{β:Bd}{Y:Pi}
theorem aj.newAt(R:aj Γ h₀ L h m ls σ imm cs){vs:List Value}(F:Fr h₀ L h' m)(N:News h₀ L h' ((a,listOf vs.toArray nn)::(imm++aL cs)))
  (ha:a ∉ (imm++aL cs).map Prod.fst) (hv:ao Γ imm (ae cs) vs xs) (hn:xs.length≤200000):aj Γ h₀ L h' m ls (σ++[.list xs]) imm (cs++[.list a vs nn]):=by
 have e:=aH.snoc imm cs (.list a vs nn);refine⟨F,fun q hq=>?_,?_,(R.C.mono e.i e.r).snoc (.list (hv.ext e) hn),fun x v hx=>?_⟩
 ·refine N q ?_
  rw[nG,←aX] at hq;rcases ey hq with a2|a2
  ·exact .tail _ a2
  ·have:q∈[(a,listOf vs.toArray nn)]:=by simpa [aL,CC.objs] using a2
   rw[cH this];exact .head _
 ·rw[nG,←aX,List.map_append]
  refine List.nodup_append.mpr ⟨R.nd,List.nodup_cons.mpr ⟨fun q=>(nomatch q),.nil⟩,fun a' ha' b hb=>?_⟩;replace hb:b=a:=cH hb;rw[hb];exact fun e=>ha (e▸ha')
 ·apply ah (R.l x v hx);intro val q1 q2
  exact⟨val,q1,q2.ext e⟩
theorem DN(C:bu Γ imm ρ cs σ):VR Γ imm2 (ae (cs++[d])) (.ref d.addr) (.cell (aA σ)):=by
 refine .cell ?_;rw[rx,b7,←C.len];have:=z9 (ae cs) d.addr
 rwa [show (ae cs).length=cs.length from List.length_map ..] at this
theorem aj.lst(R:aj Γ h₀ L h m ls σ imm cs)(ho:VR Γ imm (ae cs) va (.cell k))(hx:ak σ k=some (.list xs)) :
  ∃ a vs n pre post,va=.ref a∧cs=pre++CC.list a vs n::post∧pre.length=k∧h.get? a=some (listOf vs.toArray n)∧ao Γ imm (ae cs) vs xs∧xs.length≤200000:=by
 apply ah ho.cell_inv;intro a e0 ha;subst e0;apply dD (R.C.cell ha hx);intro d pre post e0 l e2 cr;subst e0;apply eZ cr.list_inv;intro b vs nn e0 hvs hsz;subst e0;replace e2:b=a:=e2;subst e2;exact⟨b,vs,nn,pre,post,rfl,rfl,l,(R.N _ (R.has (d:=.list b vs nn) (.head _))).1,hvs,hsz⟩
theorem MU:CN Γ:=by
 intro σ i j xs ys hi hj hz c A s m ls imm cs va vb n Q E C R ha hb k;apply kq (R.lst ha hi);intro a vs n1 pre post e0 e1 _ g1 v1 z1;subst e0;apply kq (R.lst hb hj);intro b us n2 pre2 post2 e0 e2 _ g2 v2 z2;subst e0;rw[b7,b7] at hz;refine add_lists R.F R.N ⟨_,g1,rfl,_,rfl⟩ ⟨_,g2,rfl,_,rfl⟩ (fun h' F' N'=>?_) (by rw[v1.len,v2.len,sizeLine_eq];lia);refine k h' s.toks (cs++[.list s.heap.objs.size (vs++us) 0]) _ (R.newAt F' N' (fun q=>Nat.lt_irrefl _ (R.lt q)) (v1.app v2) (by rw[ax];lia)) (aH.snoc ..) (DN R.C)
theorem IW(h:ao Γ imm ρ vs xs):∀ (n:Nat) (acc:Array Value) (ys:List AV),ao Γ imm ρ acc.toList ys→ao Γ imm ρ ((List.replicate n vs.toArray).foldl (fun a b=>a++b) acc).toList (ys++jU n xs)
 |0,acc,ys,g=>by rw[show jU 0 xs=[] from rfl,af];exact g
 |n+1,acc,ys,g=>by
  rw[List.replicate_succ,List.foldl_cons,show jU (n+1) xs=xs++jU n xs from rfl,←aX];exact IW h n (acc++vs.toArray) (ys++xs) (by rw[Array.toList_append];exact g.app h)
theorem FJ(n:Nat):jU n []=[]:=by
 induction n with
 |zero=>rfl
 |succ n ih=>exact ih
theorem N0(n:Nat)(xs:List AV):(jU n xs).length=n*xs.length:=by
 induction n with
 |zero=>rw[Nat.zero_mul];rfl
 |succ n ih=>show (xs++jU n xs).length=_;rw[ax,ih,Nat.succ_mul];lia
theorem yp(i:Int):ql i=i.toNat:=by cases i<;>rfl
set_option tactic.hygienic true in
theorem MP:Go Γ:=by
 intro σ i xs y j hi hy hj hz c A s m ls imm cs va vb n Q E C R ha hb k;apply kq (R.lst ha hi);intro a vs n1 pre post e0 e1 _ g1 v1 z1;subst e0;apply bx hb.int_inv;intro t e0;subst e0;rw[gb hy];rw[b7,yp] at hz;have hs:=rC hj;have hv:=IW v1 (if vs.toArray.isEmpty=true then 0 else j.toNat) #[] [] .nil;have he:jU (if vs.toArray.isEmpty=true then 0 else j.toNat) xs=jU (ql j) xs:=by
  rw[yp]
  split
  ·rename_i q
   have hvs:vs=[]:=by simpa using q
   have hx:xs=[]:=by have:=v1.len;rw[hvs] at this;exact List.eq_nil_of_length_eq_zero this.symm
   rw[hx,FJ,FJ]
  ·rfl
 rw[List.nil_append,he] at hv;refine mul_list R.F R.N g1 (by lia) (by lia) (by rw[List.size_toArray,v1.len];exact Nat.le_trans hz (by decide)) fun h' F' N'=>?_;refine k h' s.toks _ _ (R.newAt (vs:=_) (nn:=0) F' ?_ (fun q=>Nat.lt_irrefl _ (R.lt q)) hv (by rw[N0,yp,Nat.mul_comm];lia)) (aH.snoc ..) (DN R.C);rw[Array.toArray_toList];exact N'
theorem TO(he:Γ.ε.Ok)(hb:aM Y.β Γ.ε)(I:bW Γ n R)
  (h:IL Y R ls σ e=some (r,σ')):b9 Γ n (fun c=>eval (.UnaryOp .Not e pos) c.env) ls σ r σ':=by
 apply b5 h;clear h;intro v σ1 h1 h;apply aI h;clear h;intro b h2 h;(apply j2 h;clear h;rintro rfl rfl);intro c A s m imm cs Q E C l Rp k;show wpAny _ _ (eval e c.env >>= fun v=>standAt pos >>= fun U=>holding [v] (unaryOp .Not v)) _ _ _;refine wpAny_bind (I.ev h1 C l Rp fun hx tx ix cx va Rx xx qx=>wpAny_bind (wpAny_standAt (wpAny_holding ?_)));unfold unaryOp;refine wpAny_holding ?_;show wpAny _ _ (truthy va >>= fun b=>pure (Value.bool !b)) _ _ _;refine wpAny_bind ?_;exact xQ (Γ:=Γ) he hb h2 qx C Rx fun tk=>wpAny_pure (k hx tk ix cx _ Rx xx (.bool _))
theorem RR:b9 Γ n (fun c=>eval (.UnaryOp .USub (.Constant (.int i) q p2) pos) c.env) ls σ (.int (.k (-i))) σ:=by
 intro c A s m imm cs Q E C l Rp k;show wpAny _ _ (eval (.Constant (.int i) q p2) c.env >>= fun v=>standAt pos >>= fun U=>holding [v] (unaryOp .USub v)) _ _ _;refine wpAny_bind (wpAny_Constant_int (wpAny_bind (wpAny_standAt (wpAny_holding (PyProof.Rows.neg_int ?_)))));exact k s.heap _ imm cs _ Rp (aH.refl ..) (.int (bV _).symm)
end
end
section
section
variable {Γ:ar}{β:Bd}{Y:Pi}
theorem vk(h:ji n j=some q):q<n∧((0≤j∧j=(q:Int))∨(j<0∧-(n:Int)≤j∧j+(n:Int)=(q:Int))):=by
 unfold ji seqIndex? at h;dsimp only at h;rw[Option.ite_none_right_eq_some,Bool.and_eq_true,decide_eq_true_iff,decide_eq_true_iff] at h;obtain⟨⟨h1,h2⟩,h3⟩:=h;injection h3 with h3;replace h3:=h3▸(Int.toNat_of_nonneg h1).symm;rw[h3] at h2;refine⟨Int.ofNat_lt.mp h2,?_⟩
 by_cases h0:j<0
 ·rw[if_pos h0] at h1 h3;exact .inr ⟨h0,Int.add_nonneg_iff_neg_le.mp h1,h3⟩
 ·rw[if_neg h0] at h3;exact .inl ⟨Int.not_lt.mp h0,h3⟩
theorem QZ{n:am}(hx:ak σ k=some (.list xs))(hj:n.conc=some j)(hq:ji (aA xs) j=some q)(hr:ak xs q=some r){s:Shared}{Q E:Value→Shared→Prop}
  (_C:bp Γ c A d) (R:aj Γ c.h₀ c.L s.heap m ls σ imm cs) (ha:VR Γ imm (ae cs) va (.cell k)) (hi:VR Γ imm (ae cs) vi (.int n)) (kk:∀ tk val,VR Γ imm (ae cs) val r→Q val {s with toks:=tk}):wpAny (model Γ.prog Γ.w) A (getItem va vi) Q E s:=by
 apply kq (R.lst ha hx);intro a vs nn pre post e0 e1 _ g1 v1 z1;subst e0;apply bx hi.int_inv;intro t e0;subst e0;rw[gb hj];rw[b7] at hq;apply aN (vk hq);intro hlt hcase;have hit:=v1.item q;rw[hr] at hit;apply ah hit;intro val i1 i2;have hsz:vs.toArray.size=xs.length:=by rw[List.size_toArray,v1.len]
 rcases hcase with ⟨h0,rfl⟩|⟨h0,h1,h2⟩
 ·exact wpAny_getItem_list ⟨_,g1,rfl,_,rfl⟩ h0 (by lia) (by rw[List.getElem?_toArray];exact i1) (kk s.toks val i2)
 ·exact wpAny_getItem_list_neg ⟨_,g1,rfl,_,rfl⟩ h0 (by rw[hsz];exact h1) (by lia) (by rw[hsz,h2,List.getElem?_toArray];exact i1) (kk s.toks val i2)
theorem O2{n:Nat}{j:Int}{q:Nat}(hlt:q<n)(hcase:(0≤j∧j=(q:Int))∨(j<0∧-(n:Int)≤j∧j+(n:Int)=(q:Int))):seqIndex? j n=some q:=by
 rcases hcase with ⟨h0,rfl⟩|⟨h0,h1,h2⟩
 ·exact PySem.seqIndex_of h0 (Int.ofNat_lt.mpr hlt)
 ·rw[PySem.seqIndex_neg h0 h1,h2];rfl
theorem seqIndex_of(h:ji n j=some q):seqIndex? j n=some q:=h
theorem Ic{ss:SS}{n:am}(hlt:q<(ss.val Γ.ε).length)(hcase:(0≤n.val Γ.ε∧n.val Γ.ε=(q:Int))∨(n.val Γ.ε<0∧-((ss.val Γ.ε).length:Int)≤n.val Γ.ε∧n.val Γ.ε+((ss.val Γ.ε).length:Int)=(q:Int)))(hr:(ss.val Γ.ε)[q]?=some ch){Q E:Value→Shared→Prop}
  (ha:VR Γ imm ρ va (.str ss)) (hi:VR Γ imm ρ vi (.int n)) (kk:∀ tk val,VR Γ imm ρ val (.str [.lit [ch]])→Q val {s with toks:=tk}):wpAny (model Γ.prog Γ.w) A (getItem va vi) Q E s:=by
 apply ah ha.str_inv;intro t e0 _;subst e0;have hz:=ha.str_len;apply bx hi.int_inv;intro u e0;subst e0;refine P.getItem_str (c:=ch) ?_ ?_ (kk _ _ (.str rfl (gG [ch]) (show 1≤16777216 by decide)))
 ·rw[Bool.or_eq_false_iff,decide_eq_false_iff_not,decide_eq_false_iff_not]
  rcases hcase with ⟨h0,h1⟩|⟨h0,h1,h2⟩<;>constructor<;>lia
 ·rw[eM,O2 hlt hcase]
  show (aG (ss.val Γ.ε)).cps[q]?=some ch;show (ss.val Γ.ε).toArray[q]?=some ch;rw[List.getElem?_toArray];exact hr
theorem KW(he:Γ.ε.Ok)(h:BD ss n=some r){Q E:Value→Shared→Prop}
  (ha:VR Γ imm ρ va (.str ss)) (hi:VR Γ imm ρ vi (.int n)) (kk:∀ tk val,VR Γ imm ρ val r→Q val {s with toks:=tk}):wpAny (model Γ.prog Γ.w) A (getItem va vi) Q E s:=by
 replace h:Option.rec (motive:=fun U=>Option AV) (Cq ss n) (fun l=>Ji l n) ss.conc=some r:=h;cases q:ss.conc with
 |some l=>
  rw[q] at h;apply aI h;intro j e2 hj;apply aI hj;clear hj;intro i hq hj;apply aI hj;clear hj;intro ch e3 hj;(apply j1 hj;clear hj;rintro rfl);rw[b7] at hq;apply aN (vk hq);intro hlt hcase;have e:=iE (ε:=Γ.ε) q;rw[dH] at e3;exact Ic (by rw[e];exact hlt) (by rw[e,gb e2];exact hcase) (by rw[e];exact e3) ha hi kk
 |none=>
  rw[q] at h;apply aI h;clear h;intro ch h1 h;(apply j1 h;clear h;rintro rfl);replace ho:cG Γ.ε ss:=by apply ah ha.str_inv;intro t e0 ho;exact ho
  apply ah (QR he ho h1);intro k g1 g2;refine Ic (List.getElem?_eq_some_iff.mp g2).1 ?_ g2 ha hi kk;rcases BC he ho (by rw[g1];exact bK _) with e|⟨e0,e⟩
  ·replace e:=e.symm.trans g1;exact .inl ⟨by rw[e];exact bK _,e⟩
  ·replace e:=(Int.add_comm ..).trans (e.symm.trans g1);exact .inr ⟨e0,Int.add_nonneg_iff_neg_le.mp (by rw[e];exact bK _),e⟩
theorem Ru{n:am}(hj:n.conc=some j)(hq:ji (aA xs) j=some q)(hr:ak xs q=some r){s:Shared}{Q E:Value→Shared→Prop}
  (C:bp Γ c A d) (R:aj Γ c.h₀ c.L s.heap m ls σ imm cs) (hs:jr j=true) (ha:VR Γ imm (ae cs) va (.tup xs)) (hi:VR Γ imm (ae cs) vi (.int n)) (kk:∀ tk val,VR Γ imm (ae cs) val r→Q val {s with toks:=tk}):wpAny (model Γ.prog Γ.w) A (getItem va vi) Q E s:=by
 apply eZ ha.tup_inv;intro a vs nn e0 hk v1;subst e0;apply bx hi.int_inv;intro t e0;subst e0;have g1:s.heap.get? a=some {cls:=.type "tuple",data:=.seq vs.toArray nn}:=hk.elim (fun z=>(R.N _ (bq _ z)).1) (fun z=>C.X.keeps R.F.keep _ _ z);rw[gb hj];rw[b7] at hq;have hit:=v1.item q;rw[hr] at hit;apply ah hit;intro val i1 i2;have hsz:vs.toArray.size=xs.length:=by rw[List.size_toArray,v1.len]
 have:=rC hs;exact P.getItem_tuple (n:=nn) g1 (by lia) (by lia) (by rw[hsz];exact seqIndex_of hq) (by rw[List.getElem?_toArray];exact i1) (kk s.toks val i2)
end
end
section
section
variable {prog:Program}{w:World}{A:Around}{E:Value→Shared→Prop}{s:Shared}
theorem NS{Q:Unit→Shared→Prop}(hl:s.heap.IsList l items)
  (h0:k<0) (h1 : -(items.size:Int)≤k) (hfit : -(2 ^ 63)≤k) (hx:items[(k+items.size).toNat]?=some x)
  (hQ:∀ h',h'=s.heap.update l (Obj.mapSeq (·.setIfInBounds (k+items.size).toNat v))→Q () {s with heap:=h'}):wpAny (model prog w) A (setItem (.ref l) (.int k t) v) Q E s:=by
 apply Jk (id hl);intro o ho hc ne hd;unfold setItem
 try with_reducible refine wpAny_holding ?_
 first|refine wpAny_bind (wpAny_pure ?_)|skip
 refine wpAny_bind (wpAny_sequenceKey hl.typeIs (by decide) ?_);refine wpAny_bind (wpAny_callSpecial?_slot (name:=Str.ofString "__setitem__") hl.typeIs slot_list_setitem
  (wpAny_call_entry slot_list_setitem hl.typeIs entry_list_setitem ?_ (args_list_setitem _ _ _)))
 show wpAny _ _ (Builtin.List.listSubscript? (.int k t) >>= _) _ _ s;refine wpAny_bind (wpAny_listSubscript_int (fitsIndex_neg h0 hfit) ?_);clear hfit;have hidx:=seqIndex_neg h0 h1;generalize hq:(k+(items.size:Int)).toNat=q at *
 obtain⟨j,rfl⟩ : ∃ j:Nat,k=Int.negSucc j:=by
  cases k with
  |ofNat n=>exact absurd h0 (Int.not_lt.mpr (bK n))
  |negSucc n=>exact⟨n,rfl⟩
 show wpAny _ _ ((Builtin.List.listItems (.ref l) >>= fun xs=>pure ((seqIndex? (Int.negSucc j) xs.size).bind fun i=>xs[i]?.map (i,·))) >>= _) _ _ s;refine wpAny_bind (wpAny_bind ?_);show wpAny _ _ (seqItems? (.ref l) >>= _) _ _ s;refine wpAny_bind (wpAny_seqItems ho hd (wpAny_pure (wpAny_pure ?_)));rw[hidx];simp only [Option.bind_some,hx,Option.map_some];show wpAny _ _ (setSeqItemAt l q v >>= _) _ _ s;refine wpAny_bind (wpAny_setSeqItemAt ho hd ?_)
 first
  |exact wpAny_bind (wpAny_pure (wpAny_pure ⟨.none,rfl,wpAny_pure (hQ _ rfl)⟩))
  |exact wpAny_pure ⟨.none,rfl,wpAny_pure (hQ _ rfl)⟩
theorem KD{Q:Unit→Shared→Prop}(hl:s.heap.IsList l items)
  (h0:0≤k) (hfit:k<2 ^ 63) (hx:items[k.toNat]?=some x)
  (hQ:∀ h',h'=s.heap.update l (Obj.mapSeq (·.setIfInBounds k.toNat v))→Q () {s with heap:=h'}):wpAny (model prog w) A (setItem (.ref l) (.int k t) v) Q E s:=by
 apply Jk (id hl);intro o ho hc ne hd;unfold setItem
 try with_reducible refine wpAny_holding ?_
 first|refine wpAny_bind (wpAny_pure ?_)|skip
 refine wpAny_bind (wpAny_sequenceKey hl.typeIs (by decide) ?_);refine wpAny_bind (wpAny_callSpecial?_slot (name:=Str.ofString "__setitem__") hl.typeIs slot_list_setitem
  (wpAny_call_entry slot_list_setitem hl.typeIs entry_list_setitem ?_ (args_list_setitem _ _ _)))
 show wpAny _ _ (Builtin.List.listSubscript? (.int k t) >>= _) _ _ s;refine wpAny_bind (wpAny_listSubscript_int (fitsIndex_of h0 hfit) ?_);clear hfit;apply bx (Int.eq_ofNat_of_zero_le h0);intro j e0;subst e0;replace hx:items[j]?=some x:=hx;show wpAny _ _ ((seqItemAt l j >>= fun r=>pure (r.map (j,·))) >>= _) _ _ s;refine wpAny_bind (wpAny_bind (wpAny_seqItemAt ho hd (wpAny_pure ?_)));rw[hx];show wpAny _ _ (setSeqItemAt l j v >>= _) _ _ s;refine wpAny_bind (wpAny_setSeqItemAt ho hd ?_)
 first
  |exact wpAny_bind (wpAny_pure (wpAny_pure ⟨.none,rfl,wpAny_pure (hQ _ rfl)⟩))
  |exact wpAny_pure ⟨.none,rfl,wpAny_pure (hQ _ rfl)⟩
end
end
section
section
variable {Γ:ar}{β:Bd}{Y:Pi}
theorem ao.set(h:VR Γ imm ρ v x)(g:ao Γ imm ρ vs xs)(q:Nat):ao Γ imm ρ (vs.set q v) (dS xs q x):=by
 induction g using ao.ind generalizing q with
 |nil=>exact .nil
 |cons a g ih=>
  cases q with
  |zero=>exact .cons h g
  |succ q=>exact .cons a (ih q)
theorem DE{α:Type}(x:α):∀ (l:List α) (q:Nat),(dS l q x).length=l.length
 |[],_=>rfl
 |_::_,0=>rfl
 |_::r,q+1=>congrArg (·+1) (DE x r q)
theorem Oa:Ak Γ:=by
 intro σ k xs iv j pl v hx hj hp c A s m ls imm cs va vi val n Q E C R ha hi hv kk;apply kq (R.lst ha hx);intro a vs nn pre post e0 e01 l g1 v1 z1;subst e0;subst e01;apply ah (kd hj);intro li e0 hl;subst e0;apply bx hi.int_inv;intro t e0;subst e0;rw[gb hl];rw[b7] at hp;apply aN (vk hp);intro hlt hcase;have hsz:vs.toArray.size=xs.length:=by rw[List.size_toArray,v1.len]
 have hlt2:pl<vs.length:=by rw[v1.len];exact hlt
 have hget:vs.toArray[pl]?=some vs[pl]:=by rw[List.getElem?_toArray];exact List.getElem?_eq_getElem hlt2
 have e:∀ z:List Value×Nat,imm++aL (pre++CC.list a z.1 z.2::post)=(imm++aL pre)++(a,listOf z.1.toArray z.2)::aL post:=fun z=>by rw[ny];simp [CC.objs]
 have N:=R.N;have nd:=R.nd;rw[e (vs,nn)] at N nd;have fin:∀ h',h'=s.heap.update a (Obj.mapSeq (·.setIfInBounds pl val))→Q () {s with heap:=h'}:=fun h' eh=>by
  subst eh;have hm:(a,listOf vs.toArray nn)∈imm++aL pre++(a,listOf vs.toArray nn)::aL post:=cS _ (.head _);have nd':=nd;rw[List.map_append] at nd';apply d5 (List.nodup_append.mp nd');intro _ nd2 nd3;have h1:∀ p∈imm++aL pre,p.1≠a:=fun p hp=>nd3 p.1 (List.mem_map_of_mem hp) a (.head _);have h2:∀ p∈aL post,p.1≠a:=fun p hp e=>(List.nodup_cons.mp nd2).1 (List.mem_map.mpr ⟨p,hp,e⟩);have ef:∃ n',Obj.mapSeq (·.setIfInBounds pl val) (listOf vs.toArray nn)=listOf (vs.set pl val).toArray n':=by
   have z:vs.toArray.setIfInBounds pl val=(vs.set pl val).toArray:=List.setIfInBounds_toArray ..;refine⟨if (vs.toArray.setIfInBounds pl val).size == vs.toArray.size then nn else nn+1,?_⟩;rw[←z];rfl
  apply bx ef;clear ef;intro n' ef;apply aN (news_upd R.F N h1 h2 ef rfl);intro F' N';refine kk _ s.toks (pre++CC.list a (vs.set pl val) n'::post) ?_ (aH.put imm pre post _ _ rfl);rw[←l];refine R.put rfl rfl F' (by have z:=e (vs.set pl val,n');dsimp only at z;rw[z];exact N') (.list (v1.set hv pl) (by rw[DE];exact z1))
 rcases hcase with ⟨h0,rfl⟩|⟨h0,h1,h2⟩
 ·exact KD ⟨_,g1,rfl,_,rfl⟩ h0 (by lia) hget fin
 ·have hk:(j+(vs.toArray.size:Int)).toNat=pl:=by rw[hsz,h2];rfl
  exact NS ⟨_,g1,rfl,_,rfl⟩ h0 (by rw[hsz];exact h1) (by lia) (by rw[hk];exact hget) (by rw[hk];exact fin)
end
end
section
section
variable {Γ:ar}{β:Bd}{Y:Pi}
theorem O3(hw:Γ.ε.P=Γ.w.params){ss:SS}(hl:ss.conc=some l)(hr:jT l ds=some r){s:Shared}{Q E:Value→Shared→Prop}
  (C:bp Γ c A d) (R:aj Γ c.h₀ c.L s.heap m ls σ imm cs) (ha:VR Γ imm (ae cs) va (.dict ds)) (hi:VR Γ imm (ae cs) vi (.str ss)) (kk:∀ tk val,VR Γ imm (ae cs) val r→Q val {s with toks:=tk}):wpAny (model Γ.prog Γ.w) A (getItem va vi) Q E s:=by
 obtain⟨a,es,n,rfl,hk,⟨h1,h2⟩,hd⟩:=ha.dict_inv;apply ah hi.str_inv;intro t e0 _;subst e0;rw[mG hl];rw[hw] at h1;have f:=hd.find (x:=l);rw[hr] at f;apply ah f;intro val f1 f2;exact wpAny_getItem_of (strKind_is Γ.prog Γ.w (aG l) t) (Do (R.kn C.X hk) h1) f1 (kk _ val f2)
theorem KU(he:Γ.ε.Ok)(hw:Γ.ε.P=Γ.w.params)(h:EN β σ v i=some r){s:Shared}{Q E:Value→Shared→Prop}
  (C:bp Γ c A n) (R:aj Γ c.h₀ c.L s.heap m ls σ imm cs) (ha:VR Γ imm (ae cs) va v) (hi:VR Γ imm (ae cs) vi i) (kk:∀ tk val,VR Γ imm (ae cs) val r→Q val {s with toks:=tk}) :
  (∃ T id,s.TypeIs va T∧typeLookup (.type T) "__getitem__"=pure (some (.builtin id)))∧wpAny (model Γ.prog Γ.w) A (getItem va vi) Q E s:=by
 induction v using AV.casesOn with
 |str ss=>
  apply aI (show (ob (eG i) fun n=>BD ss n)=some r from h);intro nn q1 hj;clear h;(obtain e:=gE q1;subst e);apply ah ha.str_inv;intro t e0 _;exact⟨⟨"str",_,e0▸typeIs_str _ _ _,F.slot_str_getitem.lookup⟩,KW he hj ha hi kk⟩
 |cell k=>
  apply aI (show (ob (eG i) fun n=>C2 σ k n)=some r from h);intro nn q1 hj;clear h;apply aI hj;intro xs e1 hj;apply aI hj;intro j e2 hj;apply aI hj;intro q hq hj;(obtain e:=gE q1;subst e);apply Kd (R.lst ha (g6 e1));intro a vs n1 pre post e0 _ _ g1 _;exact⟨⟨"list",_,e0▸⟨_,g1,rfl⟩,slot_list_getitem.lookup⟩,QZ (g6 e1) e2 hq hj C R ha hi kk⟩
 |tup xs=>
  apply aI (show (ob (eG i) fun n=>Gy xs n)=some r from h);intro nn q1 hj;clear h;apply aI hj;intro j e2 hj;apply bJ hj;intro hs hj;apply aI hj;intro q hq hj;(obtain e:=gE q1;subst e);apply eZ ha.tup_inv;intro a vs nn e0 hk v1;exact⟨⟨"tuple",_,e0▸⟨_,R.kn C.X hk,rfl⟩,F.slot_tuple_getitem.lookup⟩,Ru e2 hq hj C R hs ha hi kk⟩
 |dict es=>
  apply aI (show (ob (mf i) fun x=>jT x es)=some r from h);intro x q1 hj;clear h;apply ah (nH q1);intro ss e0 e1;subst e0;apply dD ha.dict_inv;intro a es' n e0 hk _ hd;exact⟨⟨"dict",_,e0▸⟨_,R.kn C.X hk,rfl⟩,slot_dict_getitem.lookup⟩,O3 hw e1 hj C R ha hi kk⟩
 |_=>injection h
set_option tactic.hygienic true in
theorem Ia{E:Value→Shared→Prop}{Q:Value→Shared→Prop}
  (h:wpAny (model Γ.prog Γ.w) A (eval value env) (fun o s₁=>wpAny (model Γ.prog Γ.w) A (eval slice env) (fun i s₂=>(∃ T id,s₂.TypeIs o T∧typeLookup (.type T) "__getitem__"=pure (some (.builtin id)))∧wpAny (model Γ.prog Γ.w) A (getItem o i) Q E s₂) E s₁) E s) :
  wpAny (model Γ.prog Γ.w) A (eval (.Subscript value slice pos) env) Q E s:=by
 refine Subscript_ (wpAny_mono h (fun o s₁ h₁=>wpAny_mono h₁ (fun i s₂ h₂=>?_) fun _ _ x=>x) fun _ _ x=>x);obtain⟨⟨T,id,h1,h2⟩,h3⟩:=h₂;have hs:∃ ops,subscripted slice false o i=operate ops (getItem o i):=by
  induction slice using PySem.Expr.casesOn<;>first|exact⟨_,rfl⟩|(rename_i q _;induction q using oO<;>exact⟨_,rfl⟩)
 apply bx hs;clear hs;intro ops hs;exact tail_any h1 h2 h3 hs
end
noncomputable def cutA(n:Nat):Option Int→Nat
 |some i=>clip n i
 |none=>0
noncomputable def cutB(n:Nat):Option Int→Nat
 |some i=>clip n i
 |none=>n
theorem HI(n:Nat)(i:Int):max 0 (min (if i<0 then i+(n:Int) else i) (n:Int))=(clip n i:Int):=(Int.toNat_of_nonneg (Int.le_max_left ..)).symm
theorem Qv(n:Nat)(i:Int):clip n i≤n:=Int.toNat_le.mpr (Int.max_le.mpr ⟨bK _,Int.min_le_right ..⟩)
theorem PC(n:Nat)(i:Option Int):cutB n i≤n:=by
 induction i using oO with
 |none=>exact Nat.le_refl _
 |some i=>exact Qv n i
theorem pf{α:Type}(l:List α)(lo hi:Option Int):cut l lo hi=(l.drop (cutA l.length lo)).take (cutB l.length hi-cutA l.length lo):=by
 unfold cut;rw[b7];dsimp only;rw[mB,uh];induction lo using oO<;>induction hi using oO<;>rfl
theorem zG{α:Type}(l:List α)(lo hi:Option Int):(cut l lo hi).length≤l.length:=by
 rw[pf];exact Nat.le_trans (List.length_take_le' ..) (length_drop_le_self ..)
theorem Co{α γ:Type}(f:α→γ)(l:List α)(lo hi:Option Int):cut (l.map f) lo hi=(cut l lo hi).map f:=by
 rw[pf,pf,List.length_map,List.map_take,List.map_drop]
theorem LI(lo hi:Option Int)(n:Nat):sliceBounds lo hi none n=((cutA n lo:Int),(cutB n hi:Int),1):=by
 unfold sliceBounds;simp only [Option.getD_none,show (1:Int)>0 by decide,if_true];induction lo using oO<;>induction hi using oO<;>simp only [cutA,cutB,HI]<;>rfl
theorem Up(items:Array Value)(lo hi:Option Int):slicePick items lo hi none=(cut items.toList lo hi).toArray:=by
 unfold slicePick;rw[LI];dsimp only;rw[sliceRange_one,pick_run,pf,Array.length_toList]
theorem L2(lo hi:Option Int)(n:Nat):Builtin.Str.strSliceIndices lo hi 1 n=(List.range (cutB n hi-cutA n lo)).map (cutA n lo+·):=by
 rw[←sliceRange_one];unfold Builtin.Str.strSliceIndices;simp only [show (1:Int)>0 by decide,if_true];induction lo using oO<;>induction hi using oO<;>simp only [cutA,cutB,HI]<;>rfl
end
section
section
variable {Γ:ar}{β:Bd}{Y:Pi}
theorem xc(h:sD v=some b)(hv:jS Γ v imm cs val):∃ q:Option (Int×Tok),val=partValue q∧q.map (·.1)=b:=by
 induction v using oO with
 |none=>(apply j1 h;rintro rfl);exact⟨none,hv,rfl⟩
 |some v=>
  apply aI (show (ob (iW v) fun i=>some (some i))=some b from h);intro i h1 h;(apply j1 h;rintro rfl);apply ah (kd h1);intro l e0 h1;subst e0;apply bx (VR.int_inv (Γ:=Γ) hv);intro t e0;subst e0;exact⟨some (l.val Γ.ε,t),rfl,by rw[gb h1];rfl⟩
theorem jS.ext(e:aH i1 c1 i2 c2)(h:jS Γ v i1 c1 val):jS Γ v i2 c2 val:=by
 induction v using oO with
 |none=>exact h
 |some v=>exact VR.ext (Γ:=Γ) e h
theorem NK{l:List Nat}(h:(l.length=cutB l.length b-cutA l.length a)):cut l a b=l:=by
 rw[pf];have h1:=PC l.length b;have h2:cutA l.length a=0∨l.length=0:=by lia
 rcases h2 with h2|h2
 ·rw[h2,List.drop_zero,List.take_of_length_le (by lia)]
 ·have:=List.eq_nil_of_length_eq_zero h2
  subst this;simp
theorem ao.cut(h:ao Γ imm ρ vs xs)(a b:Option Int):ao Γ imm ρ (Mine.cut vs a b) (Mine.cut xs a b):=by
 apply ah h.pairs;intro l e0 e01;subst e0;subst e01;rw[Co,Co];generalize Mine.cut l a b=l;induction l with
 |nil=>exact .nil
 |cons q r ih=>exact .cons q.2 ih
theorem Dv(q:Option (Int×Tok)):IsPart (partValue q) (q.map (·.1)):=by
 induction q using oO with
 |none=>exact .none
 |some q=>exact .int _ _
set_option tactic.hygienic true in
theorem IE{ss r:SS}(hrv:r.val Γ.ε=cut (ss.val Γ.ε) a b)(hro:cG Γ.ε r){s:Shared}{Q E:Value→Shared→Prop}(_C:bp Γ c A n)(R:aj Γ c.h₀ c.L s.heap m ls σ imm cs)
  (hv:VR Γ imm (ae cs) va (.str ss)) {qa qb:Option (Int×Tok)} (ea:qa.map (·.1)=a) (eb:qb.map (·.1)=b)
  (k:∀ h' tk imm' cs' x,aj Γ c.h₀ c.L h' m ls σ imm' cs'→aH imm cs imm' cs'→VR Γ imm' (ae cs') x (.str r)→Q x {s with heap:=h',toks:=tk}) :
  (∃ T id,({s with heap:=s.heap.push {cls:=.type "slice",data:=.fields #[partValue qa,partValue qb,.none]}}:Shared).TypeIs va T∧typeLookup (.type T) "__getitem__"=pure (some (.builtin id))) ∧
   wpAny (model Γ.prog Γ.w) A (getItem va (.ref s.heap.objs.size)) Q E {s with heap:=s.heap.push {cls:=.type "slice",data:=.fields #[partValue qa,partValue qb,.none]}}:=by
 have Rn:=R.newI {cls:=.type "slice",data:=.fields #[partValue qa,partValue qb,.none]} rfl;have xn:=R.extI {cls:=.type "slice",data:=.fields #[partValue qa,partValue qb,.none]};apply ah hv.str_inv;intro t e0 ok;subst e0;have hlen:=hv.str_len;generalize ss.val Γ.ε=q at hrv hlen ⊢;refine⟨⟨"str",_,typeIs_str _ _ _,F.slot_str_getitem.lookup⟩,wpAny_getItem_str_slice (l:=qa) (u:=qb) (st:=none) ⟨_,Heap.get?_push_size _ rfl,rfl,rfl⟩ rfl ?_⟩;have fin:∀ tk t',Q (.str (aG (cut q a b)) t') {s with heap:=s.heap.push {cls:=.type "slice",data:=.fields #[partValue qa,partValue qb,.none]},toks:=tk}:=fun tk t'=>
  k _ tk _ _ _ Rn xn (.str (by rw[hrv]) hro (by rw[hrv];have:=zG q a b;lia))
 have e1:slicePicked (aG q) qa qb none=(List.range (cutB q.length b-cutA q.length a)).map (cutA q.length a+·):=by
  unfold slicePicked;rw[ea,eb,eM];exact L2 a b q.length
 have e2:((List.range (cutB q.length b-cutA q.length a)).map (cutA q.length a+·)).filterMap ((aG q).cps[·]?)=cut q a b:=by
  rw[pick_run,pf];rfl
 unfold sliceMade;rw[e1,e2,eM]
 split
 ·rename_i hh
  replace hh:=(aB hh).2;replace hh:=beq_iff_eq.mp hh;rw[List.length_map,List.length_range] at hh;have:=NK (l:=q) (a:=a) (b:=b) hh.symm;have f:=fin s.toks t;rw[this] at f;exact f
 ·refine⟨?_,fin _ _⟩
  show (aG (cut q a b)).length≤_;rw[eM,sizeLine_eq];have:=zG q a b;lia
theorem Ie{L k:Nat}{n o:Int}(h0:o=(k:Int))(h1:k≤L)(h:o=n∨(n<0∧o=(L:Int)+n)):clip L n=k:=by
 subst h0;have e:(if n<0 then n+(L:Int) else n)=(k:Int):=by
  rcases h with h|⟨h2,h⟩
  ·rw[←h];exact if_neg (Int.not_lt.mpr (bK _))
  ·rw[if_pos h2,Int.add_comm,h]
 unfold clip;rw[e,Int.min_eq_left (eP h1),Int.max_eq_right (bK _)];rfl
theorem Hx(h:zO s d v=some i)(hv:jS Γ v imm cs val) :
  ∃ q:Option (Int×Tok),val=partValue q∧((q.map (·.1)=none∧i=d)∨∃ n:am,q.map (·.1)=some (n.val Γ.ε)∧i=mU s n):=by
 induction v using oO with
 |none=>(apply j1 h;rintro rfl);exact⟨none,hv,.inl ⟨rfl,rfl⟩⟩
 |some v=>
  apply aI (show (ob (eG v) fun n=>some (mU s n))=some i from h);intro n h1 h;(apply j1 h;rintro rfl);(obtain e:=gE h1;subst e);apply bx (VR.int_inv (Γ:=Γ) hv);intro t e0;subst e0;exact⟨some (n.val Γ.ε,t),rfl,.inr ⟨n,rfl,rfl⟩⟩
theorem QE(he:Γ.ε.Ok)(h:A9 v a b σ=some (r,σ')){c:Cx}{s:Shared}{Q E:Value→Shared→Prop}(C:bp Γ c A n)(R:aj Γ c.h₀ c.L s.heap m ls σ imm cs)
  (hv:VR Γ imm (ae cs) va v) (ha:jS Γ a imm cs pa) (hb:jS Γ b imm cs pb)
  (k:∀ h' tk imm' cs' x,aj Γ c.h₀ c.L h' m ls σ' imm' cs'→aH imm cs imm' cs'→VR Γ imm' (ae cs') x r→Q x {s with heap:=h',toks:=tk}) :
  (∃ T id,({s with heap:=s.heap.push {cls:=.type "slice",data:=.fields #[pa,pb,.none]}}:Shared).TypeIs va T∧typeLookup (.type T) "__getitem__"=pure (some (.builtin id))) ∧
   wpAny (model Γ.prog Γ.w) A (getItem va (.ref s.heap.objs.size)) Q E {s with heap:=s.heap.push {cls:=.type "slice",data:=.fields #[pa,pb,.none]}}:=by
 apply aI h;clear h;intro ss h1 h;(obtain e:=ni h1;subst e);replace h:Option.rec (motive:=fun U=>Option (AV×St)) (EL ss a b σ) (fun l=>Eh l a b σ) ss.conc=some (r,σ'):=h;replace ho:cG Γ.ε ss:=by apply ah hv.str_inv;intro t e0 ho;exact ho
 cases q:ss.conc with
 |some l=>
  rw[q] at h;apply aI h;clear h;intro x h2 h;apply aI h;clear h;intro y h3 h;(apply j2 h;clear h;rintro rfl rfl);apply ah (xc h2 ha);intro qa e0 ea;subst e0;apply ah (xc h3 hb);intro qb e0 eb;subst e0;exact IE (by rw[db,iE q]) (gG _) C R hv ea eb k
 |none=>
  rw[q] at h;apply aI h;clear h;intro i h2 h;apply aI h;clear h;intro j h3 h;apply aI h;clear h;intro t h4 h;apply aI h;clear h;intro u h5 h;(apply j2 h;clear h;rintro rfl rfl);apply ah (Hx h2 ha);intro qa e0 ea;subst e0;apply ah (Hx h3 hb);intro qb e0 eb;subst e0;apply aN (JF he ho h4);intro d0 d;apply dh d;intro ki d1 d2 d3;apply aN (Rh he d0 h5);intro t0 t;apply dh t;intro kt t1 t2 t3;replace t1:=wG (ε:=Γ.ε) t1 d1;rw[d3,List.length_drop] at t2;have eA:cutA (ss.val Γ.ε).length (qa.map (·.1))=ki:=by
   rcases ea with ⟨e1,e2⟩|⟨n,e1,e2⟩
   ·rw[e1];rw[e2,bV] at d1;exact Int.ofNat.inj d1
   ·rw[e1];subst e2;exact Ie d1 d2 (BC he ho (by rw[d1];exact bK _))
  have eB:cutB (ss.val Γ.ε).length (qb.map (·.1))=ki+kt:=by
   rcases eb with ⟨e1,e2⟩|⟨n,e1,e2⟩
   ·rw[e1];rw[e2,jn he ho] at t1;exact Int.ofNat.inj t1
   ·rw[e1];subst e2;exact Ie t1 ((Nat.le_sub_iff_add_le' d2).mp t2) (BC he ho (by rw[t1];exact bK _))
  refine IE ?_ t0 C R hv rfl rfl k;rw[pf,eA,eB,t3,d3,Nat.add_sub_cancel_left]
theorem LO(h:t6 kk av bv σ=some (r,σ')){s:Shared}{Q E:Value→Shared→Prop}(_C:bp Γ c A n)(R:aj Γ c.h₀ c.L s.heap m ls σ imm cs)
  (hv:VR Γ imm (ae cs) va (.cell kk)) (ha:jS Γ av imm cs pa) (hb:jS Γ bv imm cs pb)
  (k:∀ h' tk imm' cs' x,aj Γ c.h₀ c.L h' m ls σ' imm' cs'→aH imm cs imm' cs'→VR Γ imm' (ae cs') x r→Q x {s with heap:=h',toks:=tk}) :
  (∃ T id,({s with heap:=s.heap.push {cls:=.type "slice",data:=.fields #[pa,pb,.none]}}:Shared).TypeIs va T∧typeLookup (.type T) "__getitem__"=pure (some (.builtin id))) ∧
   wpAny (model Γ.prog Γ.w) A (getItem va (.ref s.heap.objs.size)) Q E {s with heap:=s.heap.push {cls:=.type "slice",data:=.fields #[pa,pb,.none]}}:=by
 apply aI h;clear h;intro a h6 h;apply aI h;clear h;intro b h7 h;apply ah (xc h6 ha);intro qa e0 ea;subst e0;apply ah (xc h7 hb);intro qb e0 eb;subst e0;apply aI h;clear h;intro xs h8 h;(apply j2 h;clear h;rintro rfl rfl);have Rn:=R.newI {cls:=.type "slice",data:=.fields #[partValue qa,partValue qb,.none]} rfl;have xn:=R.extI {cls:=.type "slice",data:=.fields #[partValue qa,partValue qb,.none]};apply kq (R.lst hv (g6 h8));intro ad vs nn pre post e0 e1 _ g1 v1 z1;subst e0;have hL:s.heap.IsList ad vs.toArray:=⟨_,g1,rfl,_,rfl⟩;have hL':Heap.IsList (s.heap.push {cls:=.type "slice",data:=.fields #[partValue qa,partValue qb,.none]}) ad vs.toArray:=hL.push _;refine⟨⟨"list",_,hL'.typeIs,slot_list_getitem.lookup⟩,wpAny_getItem_list_slice hL' (Heap.IsSliceOf.new ..) (Dv qa) (Dv qb) .none (by simp) ?_ (by rw[List.size_toArray,v1.len,sizeLine_eq];lia)⟩;rw[ea,eb,Up];have v2:ao Γ ((s.heap.objs.size,{cls:=.type "slice",data:=.fields #[partValue qa,partValue qb,.none]})::imm) (ae cs) (cut vs a b) (cut xs a b):=(v1.ext xn).cut a b;exact k _ s.toks _ _ _ (Rn.newL v2 (by have:=zG xs a b;lia)) (xn.trans (aH.snoc ..)) (zy Rn.C)
theorem Df{n:Nat}{R:aR}(he:Γ.ε.Ok)(I:bW Γ n R){ls:ac}{σ σ':St}{o:Expr}{lo hi st:Option Expr}{p2 pos:Pos}{r:AV}
  (h:BV R ls σ o lo hi st=some (r,σ')):b9 Γ n (fun c=>eval (.Subscript o (.Slice lo hi st p2) pos) c.env) ls σ r σ':=by
 apply b5 h;clear h;intro v σ1 h1 h;apply bJ h;clear h;intro h2 h;apply b5 h;clear h;intro a0 σ2 h3 h;apply b5 h;intro b0 σ3 h4 hj;have hst:st=none:=by induction st using oO with|none=>rfl|some=>injection h2
 subst hst;clear h;intro c A s m imm cs Q E C l Rp k;refine Ia (I.ev h1 C l Rp fun hx tx ix cx va Rx xx qx=>?_);refine wpAny_Slice (I.evo h3 C l (s:={s with heap:=hx,toks:=tx}) Rx fun hy ty iy cy pa Ry xy qy=>I.evo h4 C l (s:={s with heap:=hy,toks:=ty}) Ry fun hz tz iz cz pb Rz xz qz=>?_);rw[evalPart_none];refine wpAny_pure ?_;have qx':=qx.ext (xy.trans xz);have kf:∀ h' tk imm' cs' x,aj Γ c.h₀ c.L h' m ls.v σ' imm' cs'→aH iz cz imm' cs'→VR Γ imm' (ae cs') x r→Q x {s with heap:=h',toks:=tk}:=fun h' tk i' c' x R' x' q'=>k h' tk i' c' x R' (xx.trans (xy.trans (xz.trans x'))) q';cases q:ib v with
 |none=>rw[q] at hj;exact QE he hj C (s:={s with heap:=hz,toks:=tz}) Rz qx' (qy.ext xz) qz kf
 |some kk=>rw[q] at hj;(obtain e:=kl q;subst e);exact LO hj C (s:={s with heap:=hz,toks:=tz}) Rz qx' (qy.ext xz) qz kf
theorem Fs(he:Γ.ε.Ok)(hw:Γ.ε.P=Γ.w.params)(I:bW Γ n R)
  (h:Ga Y R ls σ o i=some (r,σ')):b9 Γ n (fun c=>eval (.Subscript o i pos) c.env) ls σ r σ':=by
 apply b5 h;clear h;intro v σ1 h1 h;apply b5 h;clear h;intro iv σ2 h2 h;apply aI h;clear h;intro r' h3 h;(apply j2 h;clear h;rintro rfl rfl);intro c A s m imm cs Q E C l Rp k;refine Ia (I.ev h1 C l Rp fun hx tx ix cx va Rx xx qx=>I.ev h2 C l (s:={s with heap:=hx,toks:=tx}) Rx fun hy ty iy cy vi Ry xy qy=>?_);exact KU he hw h3 C (s:={s with heap:=hy,toks:=ty}) Ry (qx.ext xy) qy fun tk val q=>k hy tk iy cy val Ry (xx.trans xy) q
end
end
section
section
variable {Γ:ar}{β:Bd}{Y:Pi}
theorem ao.take(n:Nat)(h:ao Γ imm ρ vs xs):ao Γ imm ρ (vs.take n) (xs.take n):=by
 apply ah h.pairs;intro l e0 e01;subst e0;subst e01;rw[←List.map_take,←List.map_take];generalize l.take n=l;induction l with
 |nil=>exact .nil
 |cons q r ih=>exact .cons q.2 ih
theorem Qs:∀ (l:List Value) (y:Value),kl_last (l++[y])=some (l,y):=by
 intro L0;induction L0 with
 |nil=>
  intro _;exact rfl
 |cons x r ih=>
  intro y;show (match kl_last (r++[y]) with|some (p,y)=>some (x::p,y)|none=>some ([],x))=_;rw[ih y]
theorem Pe(hx:ak σ k=some (.list xs))(hq:ji (aA xs) (-1)=some q)(hv:ak xs q=some v){s:Shared}{Q E:Value→Shared→Prop}
  (_C:bp Γ c A n) (R:aj Γ c.h₀ c.L s.heap m ls σ imm cs) (ho:VR Γ imm (ae cs) va (.cell k))
  (kk:∀ h' imm' cs' val,aj Γ c.h₀ c.L h' m ls (dS σ k (.list (aP q xs))) imm' cs'→aH imm cs imm' cs'→VR Γ imm' (ae cs') val v→Q val {s with heap:=h'}):wpAny (model Γ.prog Γ.w) A (call (.builtin "list.pop") [va] []) Q E s:=by
 apply kq (R.lst ho hx);intro a vs nn pre post e0 e01 l g1 v1 z1;subst e0;subst e01;rw[b7] at hq;apply aN (vk hq);intro hlt hcase;have hq1:q+1=xs.length:=by rcases hcase with ⟨h0,h1⟩|⟨h0,h1,h2⟩<;>lia
 have it:=v1.item q;rw[hv] at it;apply ah it;intro y y1 y2;have hvl:=v1.len;have evs:vs=vs.take q++[y]:=by
  have h1:vs.drop q=[y]:=by
   obtain⟨hl,hy⟩:=List.getElem?_eq_some_iff.mp y1;rw[List.drop_eq_getElem_cons hl,hy,List.drop_eq_nil_of_le (by lia)]
  have:=List.take_append_drop q vs;rw[h1] at this;exact this.symm
 have e:∀ z:List Value×Nat,imm++aL (pre++CC.list a z.1 z.2::post)=(imm++aL pre)++(a,listOf z.1.toArray z.2)::aL post:=fun z=>by rw[ny];simp [CC.objs]
 have N:=R.N;have nd:=R.nd;rw[e (vs,nn)] at N nd;refine kl_pop (its:=vs.toArray) (n:=nn) (p:=vs.take q) (y:=y) R.F N (by show kl_last vs=_;have:=Qs (vs.take q) y;rw[←evs] at this;exact this) (sx nd) (by show vs.length≤_;rw[hvl,sizeLine_eq];lia) fun h' F' N'=>?_;refine kk h' imm (pre++CC.list a (vs.take q) (nn+1)::post) y ?_ (aH.put imm pre post _ _ rfl) (by rw[ue pre post (CC.list a vs nn) (CC.list a (vs.take q) (nn+1)) rfl];exact y2);rw[←l,mB];exact R.put rfl rfl F' (by have z:=e (vs.take q,nn+1);dsimp only at z;rw[z];exact N') (.list (v1.take q) (by rw[List.length_take];lia))
theorem NN(hx:ak σ k=some (.list (v::xs))){s:Shared}{Q E:Value→Shared→Prop}
  (_C:bp Γ c A n) (R:aj Γ c.h₀ c.L s.heap m ls σ imm cs) (ho:VR Γ imm (ae cs) va (.cell k))
  (kk:∀ h' imm' cs' val,aj Γ c.h₀ c.L h' m ls (dS σ k (.list xs)) imm' cs'→aH imm cs imm' cs'→VR Γ imm' (ae cs') val v→Q val {s with heap:=h'}):wpAny (model Γ.prog Γ.w) A (call (.builtin "list.pop") [va,.int 0 t] []) Q E s:=by
 apply kq (R.lst ho hx);intro a vs nn pre post e0 e01 l g1 v1 z1;subst e0;subst e01;have hvl:=v1.len;have e:∀ z:List Value×Nat,imm++aL (pre++CC.list a z.1 z.2::post)=(imm++aL pre)++(a,listOf z.1.toArray z.2)::aL post:=fun z=>by rw[ny];simp [CC.objs]
 have N:=R.N;have nd:=R.nd;rw[e (vs,nn)] at N nd;cases v1 with
 |@cons y _ vs' _ y2 v2=>
  refine kl_popAt (its:=(y::vs').toArray) (n:=nn) (p:=[]) (q:=vs') (y:=y) (k:=0) R.F N (by decide) (by show seqIndex? 0 (y::vs').toArray.size=_;rw[List.size_toArray];unfold seqIndex?;simp) rfl (sx nd) (by show (y::vs').length≤_;rw[hvl,sizeLine_eq];lia) fun h' F' N'=>?_;refine kk h' imm (pre++CC.list a vs' (nn+1)::post) y ?_ (aH.put imm pre post _ _ rfl) (by rw[ue pre post (CC.list a (y::vs') nn) (CC.list a vs' (nn+1)) rfl];exact y2);rw[←l];exact R.put rfl rfl F' (by have z:=e (vs',nn+1);dsimp only at z;rw[z];exact N') (.list v2 (by have:=z1;simp at this;lia))
noncomputable def jE(sep:List Nat):List (List Nat)→List Nat
 |[]=>[]
 |[x]=>x
 |x::y::r=>x++(sep++jE sep (y::r))
theorem HU(sep:List Nat):∀ ys:List (List Nat),Str.join (aG sep) (ys.map aG)=aG (jE sep ys)
 |[]=>rfl
 |[x]=>rfl
 |x::y::r=>by
  show aG x++aG sep++Str.join (aG sep) ((y::r).map aG)=aG (x++(sep++jE sep (y::r)));rw[HU sep (y::r),vR,vR,aX]
theorem Ct(sep:List Nat):∀ ys:List (List Nat),(ys.map List.length).sum+ys.length*sep.length≤(jE sep ys).length+sep.length
 |[]=>by show 0+0*sep.length≤_;rw[Nat.zero_mul];exact Nat.zero_le _
 |[x]=>by show x.length+0+1*sep.length≤x.length+sep.length;rw[Nat.one_mul];exact Nat.le_refl _
 |x::y::r=>by
  have ih:=Ct sep (y::r);have e:jE sep (x::y::r)=x++(sep++jE sep (y::r)):=rfl;rw[e,ax,ax,List.map_cons,List.sum_cons,bb,Nat.succ_mul];lia
theorem Se{sep:SS}(hs:sep.val Γ.ε=l)(hso:cG Γ.ε sep)(g:ao Γ imm ρ vs xs):wH sep xs=some t →
  ∃ ys:List (List Nat),StrsAre vs (ys.map aG)∧t.val Γ.ε=jE l ys∧cG Γ.ε t:=by
 induction g using ao.ind generalizing t with
 |nil=>intro h;(apply j1 h;clear h;rintro rfl);exact⟨[],.nil,rfl,fun U h=>(nomatch h)⟩
 |cons hv hr ih=>
  intro h;apply aI h;intro s e hj;apply aI hj;clear hj;intro t' h1 hj;(obtain e:=ni e;subst e);apply ah hv.str_inv;intro tt e0 o;subst e0;apply dh (ih h1);intro ys y1 y2 y3;cases hr with
  |nil=>
   induction ys using oL with
   |cons=>cases y1
   |nil=>exact⟨[s.val Γ.ε],.cons _ _ .nil,by rw[←osI hj];rfl,by rw[←osI hj];exact o⟩
  |cons a b=>
   have ht:s.app (sep.app t')=t:=osI hj;refine⟨s.val Γ.ε::ys,.cons _ _ y1,?_,by rw[←ht];exact kK o (kK hso y3)⟩;rw[←ht,fG,fG,hs,y2];induction ys using oL with
   |nil=>cases y1
   |cons y ys=>rfl
theorem Jh:∀ {vs:List Value} {l:List Nat},jg Γ.ε vs l→∃ ys:List (List Nat),StrsAre vs (ys.map aG)∧l=jE [] ys∧vs.length=ys.length
 |_,_,.nil=>⟨[],.nil,rfl,rfl⟩
 |_,_,.snoc (r:=r) (t:=t) h=>by
  apply dh (Jh h);intro ys y1 e0 y3;subst e0;refine⟨ys++[r],?_,?_,by simp [y3]⟩
  ·rw[List.map_append]
   have app:∀ {a b:List Value} {x y:List Str},StrsAre a x→StrsAre b y→StrsAre (a++b) (x++y):=by
    intro a b x y h1 h2;induction h1 with
    |nil=>exact h2
    |cons i t _ ih=>exact .cons i t ih
   exact app y1 (.cons _ _ .nil)
  ·clear y1 y3 h
   induction ys with
   |nil=>rfl
   |cons a ys ih=>
    induction ys using oL with
    |nil=>rfl
    |cons b ys=>
     show a++([]++jE [] (b::ys))++r=a++([]++jE [] ((b::ys)++[r]));rw[←ih,List.nil_append,List.nil_append,aX]
theorem Lj(x y:List Nat):Txt.startswith (aG x) (aG y)=lR y x:=by
 have h1:Builtin.Str.subAt (aG x) (aG y) 0=(x.take y.length == y):=by
  have e:=StrLaws.subAt_eq (aG x) (aG y) 0;rw[eM] at e;exact e
 unfold Txt.startswith;rw[h1,eM,eM];have:∀ y x:List Nat,(decide (0+y.length≤x.length)&&(x.take y.length == y))=lR y x:=by
  intro y;induction y with
  |nil=>intro x;show _=true;simp
  |cons b y ih=>
   intro x;induction x using oL with
   |nil=>show _=false;simp
   |cons a x=>
    have e:lR (b::y) (a::x)=(Nat.beq b a&&lR y x):=by
     show Bool.rec (motive:=fun U=>Bool) false (lR y x) (Nat.beq b a)=_;cases Nat.beq b a<;>rfl
    rw[e,←ih x,yx]
    by_cases hb:b=a
    ·subst hb;simp
    ·simp [hb,Ne.symm hb]
 exact this y x
end
end
section
section
variable {Γ:ar}{β:Bd}{Y:Pi}
theorem aj.kept{h₀ h h':Heap}(R:aj Γ h₀ L h m ls σ imm cs)(kp:∀ b x,h.get? b=some x→h'.get? b=some x)(hs:h.objs.size≤a)(hg:h'.get? a=some o) :
  aj Γ h₀ L h' m ls σ ((a,o)::imm) cs:=by
 have e:∀ p∈imm,p∈(a,o)::imm:=fun p hp=>.tail _ hp;refine⟨R.F.after kp,R.N.kept_cons R.F kp hs hg,?_,R.C.mono e fun U U h=>h,fun x v hx=>?_⟩
 ·show (a::(imm++aL cs).map Prod.fst).Nodup
  exact List.nodup_cons.mpr ⟨fun q=>Nat.lt_irrefl _ (Nat.lt_of_lt_of_le (R.lt q) hs),R.nd⟩
 ·apply ah (R.l x v hx);intro val a b
  exact⟨val,a,b.mono e fun U U h=>h⟩
set_option smartUnfolding false in
theorem DP:∀ {es:List (List Nat×AV)},gw x es=false→∀ p∈es,p.1≠x:=by
 intro L0;induction L0 with
 |nil=>
  intro _ p h;cases h
 |cons q r ih=>
  intro h p hp;replace h:Bool.rec (motive:=fun U=>Bool) (gw x r) true (co q.1 x)=false:=h;cases e:co q.1 x with
  |true=>rw[e] at h;injection h
  |false=>
   rw[e] at h;rcases bU hp with rfl|hp
   ·intro z;rw[gJ.mpr z] at e;injection e
   ·exact ih h p hp
set_option smartUnfolding false in
theorem DR.pairs(hd:DR Γ imm ρ es ds):KeysLit Γ.w.params es→jj ds=true →
  ∃ kvs:List (Str×Value),Pairs (strKind Γ.prog Γ.w) es kvs∧kvs.map (·.1)=ds.map (fun q=>aG q.1)∧(kvs.map (·.1)).Nodup∧ao Γ imm ρ (kvs.map (·.2)) (ds.map (·.2)):=by
 induction hd using DR.ind with
 |nil=>exact fun U U=>⟨[],.nil,rfl,.nil,.nil⟩
 |@cons hh t l v y es ds a g ih=>
  intro hk hn;replace hn:=aB (show (!gw l ds&&jj ds)=true from hn);apply sg (ih hk.2 hn.2);intro kvs h1 h2 h3 h4;refine⟨(aG l,v)::kvs,.cons (strKind_is Γ.prog Γ.w (aG l) t) rfl h1,by rw[List.map_cons,List.map_cons,h2],?_,.cons a h4⟩;rw[List.map_cons];refine List.nodup_cons.mpr ⟨fun q=>?_,h3⟩;rw[h2] at q;apply ah (dm q);intro z hz e;have:gw l ds=false:=by have:=hn.1;cases hq:gw l ds<;>simp_all
  exact DP this z hz (zK e)
theorem ao.pairsOf{ds:List (List Nat×AV)}(h:Pairs (strKind Γ.prog Γ.w) es kvs)(e:kvs.map (·.1)=ds.map (fun q=>aG q.1))(hv:ao Γ imm ρ (kvs.map (·.2)) (ds.map (·.2))):DR Γ imm ρ es ds:=by
 induction h generalizing ds with
 |nil=>
  obtain rfl:ds=[]:=List.map_eq_nil_iff.mp e.symm;exact .nil
 |@cons e0 p es kvs hk hu hp ih=>
  apply ir (List.map_eq_cons_iff.mp e.symm);intro d r e0 e1 e2;subst e0;apply ir hv.inv;intro _ _ q a g;injection q with q1 q2;obtain⟨hh,key,v⟩:=e0;obtain⟨k,u⟩:=p;apply bx (Value.isStrOf_shape hk);intro t e0;subst e0;replace hu:v=u:=hu;replace e1:aG d.1=k:=e1;replace q1:u=_:=q1;subst hu q1 q2 e1;exact .cons a (ih e2.symm g)
theorem Gw:∀ {es:List DictEntry},(∀ e∈es,∃ k,(strKind Γ.prog Γ.w).is k e.key=true∧e.hash=(strKind Γ.prog Γ.w).hash k)→KeysLit Γ.w.params es:=by
 intro L0;induction L0 with
 |nil=>
  intro _;exact trivial
 |cons e r ih=>
  intro h;exact⟨by
   apply ah (h e (.head _));intro k h1 h2;apply bx (Value.isStrOf_shape h1);intro t ht;exact⟨k,t,ht,h2⟩,ih fun e he=>h e (.tail _ he)⟩
theorem VR.dictOf(hw:Γ.ε.P=Γ.w.params)(R:aj Γ h₀ L h m ls σ imm cs)(X:Γ.K.In h₀)
  (hk:Kn Γ imm a (dictOf es n)) (hl:KeysLit Γ.ε.P es) (hd:DR Γ imm (ae cs) es ds) (hn:jj ds=true) :
  ∃ kvs:List (Str×Value),h.DictAt (strKind Γ.prog Γ.w) a kvs n∧kvs.map (·.1)=ds.map (fun q=>aG q.1)∧ao Γ imm (ae cs) (kvs.map (·.2)) (ds.map (·.2)):=by
 rw[hw] at hl;apply sg (hd.pairs hl hn);intro kvs h1 h2 h3 h4;refine⟨kvs,⟨_,es.toArray,R.kn X hk,⟨rfl,rfl,rfl⟩,rfl,fun e he=>?_,by simpa using h1,h3⟩,h2,h4⟩;apply tT (hl.all e (by simpa using he));intro x t e1 e2;exact⟨x,by rw[e1];exact strKind_is Γ.prog Γ.w x t,e2⟩
theorem Fw{h₀ h:Heap}(g:h₀.Ns mainGlobals mg)(kp:∀ b x,h₀.get? b=some x→h.get? b=some x):(h.objs.size == sysModules)=false:=by
 apply mC g;intro o _ _ hL _;have h1:=Heap.lt_size (kp _ _ hL);have h2:(sysModules:Nat)<mainGlobals:=by decide
 have h3:h.objs.size≠sysModules:=Nat.ne_of_gt (Nat.lt_trans h2 h1);cases q:h.objs.size == sysModules with
 |false=>rfl
 |true=>exact absurd (beq_iff_eq.mp q) h3
noncomputable def oX(Γ:ar)(id:BM)(ov:AV)(vs:List AV)(σ:St)(q:AV×St):Prop :=
 ∀ {c A s m ls imm cs va vals} {n:Nat} {Q E:Value→Shared→Prop},bp Γ c A n→aj Γ c.h₀ c.L s.heap m ls σ imm cs→VR Γ imm (ae cs) va ov→ao Γ imm (ae cs) vals vs →
  (∀ h' tk imm' cs' val,aj Γ c.h₀ c.L h' m ls q.2 imm' cs'→aH imm cs imm' cs'→VR Γ imm' (ae cs') val q.1→Q val {s with heap:=h',toks:=tk})→wpAny (model Γ.prog Γ.w) A (call (.builtin id.id) (va::vals) []) Q E s
theorem ao.one(h:ao Γ imm ρ vals [v]):∃ val,vals=[val]∧VR Γ imm ρ val v:=by
 obtain⟨_,_,e0,a,b⟩:=ao.inv h;clear h;subst e0;(obtain e:_=_:=ao.inv b;subst e);exact⟨_,rfl,a⟩
theorem ao.none(h:ao Γ imm ρ vals []):vals=[]:=by (obtain e:_=_:=ao.inv h;subst e);rfl
section
variable {σ:St}{o:AV}{as:List AV}
theorem Lw(hb:aM Y.β Γ.ε)(hx:ak σ k=some c):OB (GF Y.β σ k v c) (oX Γ .append (.cell k) [v] σ):=by
 induction c using aw.casesOn with
 |list xs=>
  show OB (gd (Nat.ble (aA xs) 100000) (some (AV.none,dS σ k (.list (xs++[v]))))) _;exact OB.gd fun h2=>OB.pure fun {c A s m ls imm cs va vals n Q E} C R hv hvs kk=>by
   apply ah hvs.one;intro val e0 hv1;subst e0;exact Cn hx (df h2) C R hv hv1 fun h' imm' cs' R' x'=>kk h' s.toks imm' cs' _ R' x' .none
 |rows t q=>
  show OB (ob (jw v) fun s=>ob (jY Y.β q (.k 1000000)) fun b=>gd b (some (AV.none,dS σ k (.rows (t.app s) (q.add (.k 1)))))) _;exact OB.ob fun r h1=>OB.ob fun z h0=>OB.gd fun h2=>OB.pure fun {c A s m ls imm cs va vals n Q E} C R hv hvs kk=>by
   apply ah hvs.one;intro val e0 hv1;subst e0;(obtain e:=ni h1;subst e);exact Me hx (by have:=uQ hb h0;rw[h2,bV] at this;exact of_decide_eq_true this.symm) C R hv hv1 fun h' imm' cs' R' x'=>kk h' s.toks imm' cs' _ R' x' .none
 |inst=>exact OB.no
 |any=>exact OB.no
theorem Ut(hb:aM Y.β Γ.ε):OB (Dm Y.β σ o as) (oX Γ .append o as σ):=OB.ob fun k h1=>OB.ob fun v h2=>OB.ob fun c h3=>by
 (obtain e:=kl h1;subst e);(obtain e:=k9 h2;subst e);exact Lw hb h3
theorem Qx:OB (Hs σ o as) (oX Γ .pop o as σ):=OB.ob fun k h1=>OB.ob fun xs h2=>by
 (obtain e:=kl h1;subst e);replace h2:=g6 h2
 match as with
 |[]=>
  show OB (GG σ k xs) _;exact OB.ob fun p h3=>OB.ob fun v h4=>OB.pure fun {c A s m ls imm cs va vals n Q E} C R hv hvs kk=>by
   obtain rfl:=hvs.none;exact Pe h2 h3 h4 C R hv fun h' imm' cs' val R' x' q'=>kk h' s.toks imm' cs' val R' x' q'
 |[i]=>
  show OB (Dx σ k xs i) _;refine OB.ob fun j h3=>OB.gd fun h4=>?_;rw[yW] at h4;replace h4:=of_decide_eq_true h4;subst h4;induction xs using oL with
  |nil=>exact OB.no
  |cons v r=>
   show OB (some (v,dS σ k (.list r))) _;exact OB.pure fun {c A s m ls imm cs va vals n Q E} C R hv hvs kk=>by
    apply ah hvs.one;intro val e0 hv1;subst e0;apply ah (kd h3);intro l e0 e2;subst e0;apply bx hv1.int_inv;intro t e0;subst e0;rw[gb e2];exact NN h2 C R hv fun h' imm' cs' val R' x' q'=>kk h' s.toks imm' cs' val R' x' q'
 |_::_::_=>exact OB.no
section
variable (he:Γ.ε.Ok)(hb:aM Y.β Γ.ε)
include he hb
theorem Io{l:List Nat}{vs:List Value}{ys:List (List Nat)}{tx:SS}{s:Shared}{Q E:Value→Shared→Prop}
  (hl:l.length≤1000) (_C:bp Γ c A n) (R:aj Γ c.h₀ c.L s.heap m ls σ imm cs) (hg:s.heap.get? a=some (listOf vs.toArray nn)) (hs:StrsAre vs (ys.map aG)) (ht:tx.val Γ.ε=jE l ys) (ho:cG Γ.ε tx) (hm:gP Y.β tx=some r)
  (kk:∀ h' tk imm' cs' val,aj Γ c.h₀ c.L h' m ls σ imm' cs'→aH imm cs imm' cs'→VR Γ imm' (ae cs') val r→Q val {s with heap:=h',toks:=tk}) :
  wpAny (model Γ.prog Γ.w) A (call (.builtin "str.join") [.str (aG l) t,.ref a] []) Q E s:=by
 have hz:=tH he hb ho hm;apply aN (rI hm);intro e0 _;subst e0;have hlen:=Ct l ys;rw[←ht] at hlen;refine join_list (items:=vs.toArray) ⟨_,hg,rfl,_,rfl⟩ hs ?_ fun t' tk=>?_
 ·rw[List.map_map,List.length_map,eM]
  have:(ys.map (Str.length ∘ aG))=ys.map List.length:=List.map_congr_left fun y U=>eM y;rw[this];lia
 ·show Q (.str (Txt.join (aG l) (ys.map aG)) t') _
  rw[show Txt.join (aG l) (ys.map aG)=Str.join (aG l) (ys.map aG) from StrLaws.glued_eq_join _ _,HU,←ht];exact kk s.heap tk imm cs _ R (aH.refl ..) (.str rfl ho (by lia))
theorem Us{ss:SS}(h1:ss.conc=some l)(hl:l.length≤1000)(hx:ak σ k=some c):OB (GK Y σ l c) (oX Γ .join (.str ss) [.cell k] σ):=by
 induction c using aw.casesOn with
 |list xs=>
  show OB (ob (wH (.k l) xs) fun t=>ob (gP Y.β t) fun r=>some (r,σ)) _;exact OB.ob fun tx h3=>OB.ob fun r h4=>OB.pure fun {c A s m ls imm cs va vals n Q E} C R hv hvs kk=>by
   apply ah hvs.one;intro val e0 hv1;subst e0;apply ah hv.str_inv;intro t e0 _;subst e0;rw[mG h1];apply kq (R.lst hv1 hx);intro a vs nn pre post e0 _ _ g1 v1 z1;subst e0;apply dh (Se (db l) (gG l) v1 h3);intro ys y1 y2 y3;exact Io he hb hl C R g1 y1 y2 y3 h4 kk
 |rows tx q=>
  show OB (gd (aF l) (ob (gP Y.β tx) fun r=>some (r,σ))) _;exact OB.gd fun h2=>OB.ob fun r h4=>OB.pure fun {c A s m ls imm cs va vals n Q E} C R hv hvs kk=>by
   obtain rfl:=u8 h2;apply ah hvs.one;intro val e0 hv1;subst e0;apply ah hv.str_inv;intro t e0 _;subst e0;rw[mG h1];apply ah hv1.cell_inv;intro a e0 ha;subst e0;apply dD (R.C.cell ha hx);intro d pre post e0 lq e2 cr;subst e0;apply dD cr.rows_inv;intro b vs nn e0 hvs2 hok hsz;subst e0;(obtain e:=CC.same e2;subst e);apply dh (Jh hvs2);intro ys y1 y2 y3;exact Io he hb hl C R (R.N _ (R.has (d:=.list b vs nn) (.head _))).1 y1 y2 hok h4 kk
 |inst=>exact OB.no
 |any=>exact OB.no
theorem S0:OB (FL Y σ o as) (oX Γ .join o as σ):=OB.ob fun l h1=>OB.gd fun h2=>OB.ob fun a h3=>OB.ob fun k h4=>OB.ob fun c h5=>by
 apply ah (nH h1);clear h1;intro ss e0 h1;subst e0;(obtain e:=k9 h3;subst e);(obtain e:=kl h4;subst e);replace h2:=df h2;rw[b7] at h2;exact Us he hb h1 h2 h5
end
theorem Cb:∀ {p l r:List Nat} {e b:Bool},BP p l e=some b→(e=true→r=[])→lR p (l++r)=b
 |[],_,_,_,_,h,_=>osI h
 |x::p,[],r,e,b,h,g=>by
  cases e with
  |false=>injection h
  |true=>rw[g rfl];exact osI h
 |x::p,a::l,r,e,b,h,g=>by
  replace h:Bool.rec (motive:=fun U=>Option Bool) (some false) (BP p l e) (Nat.beq x a)=some b:=h;show Bool.rec (motive:=fun U=>Bool) false (lR p (l++r)) (Nat.beq x a)=b;cases q:Nat.beq x a with
  |false=>rw[q] at h;exact osI h
  |true=>rw[q] at h;exact Cb h g
theorem UA(h:Hb p s=some b):lR p (s.val Γ.ε)=b:=by
 induction s using oL with
 |nil=>have h:=osI h;subst h;cases p<;>rfl
 |cons q r=>
  induction q using Pc.casesOn with
  |lit l=>exact Cb h fun e=>by cases r with|nil=>rfl|cons=>injection e
  |var i=>injection h
  |rep _ _=>injection h
theorem Qz:OB (DC σ o as) (oX Γ .starts o as σ):=OB.ob fun ss h1=>OB.ob fun p h2=>OB.ob fun q h3=>OB.ob fun b h4=>OB.pure fun {c A s m ls imm cs va vals n Q E} C R hv hvs kk=>by
 (obtain e:=ni h1;subst e);(obtain e:=k9 h2;subst e);apply ah (nH h3);clear h3;intro s2 e0 h3;subst e0;apply ah hvs.one;intro val e0 hv1;subst e0;apply ah hv.str_inv;intro t e0 _;subst e0;apply ah hv1.str_inv;intro u e0 _;subst e0;rw[mG h3];refine SC.startswith ?_;rw[Lj,UA h4];exact kk s.heap s.toks imm cs _ R (aH.refl ..) (.bool _)
section
variable (hw:Γ.ε.P=Γ.w.params)
include hw
theorem Kq:OB (GD σ o as) (oX Γ .copy o as σ):=OB.ob fun es h1=>OB.gd fun h2=>OB.pure fun {c A s m ls imm cs va vals n Q E} C R hv hvs kk=>by
 (obtain e:=P7 h1;subst e);simp only [Bool.and_eq_true] at h2;obtain rfl:=u8 h2.1;obtain rfl:=hvs.none;have h3:=df h2.2.2;rw[b7] at h3;obtain⟨a,es',nn,rfl,hk,⟨hl,lo⟩,hd⟩:=hv.dict_inv;apply dh (VR.dictOf hw R C.X hk hl hd h2.2.1);intro kvs hat e2 v2;apply sR hat;intro o es2 ho hc hdt r;have hD:s.heap.DictOf (strKind Γ.prog Γ.w) a kvs:=⟨o,es2,nn,ho,hc,hdt,r⟩;have hlen:kvs.length=es.length:=by have:=congrArg List.length e2;simpa using this
 refine call_meetsIn F.slot_dict_copy hD.typeIs F.entry_dict_copy (F.args_dict_copy_1 _) (meets_dict_copy (strKind Γ.prog Γ.w) a lo) ⟨kvs,hD,by rw[hlen,sizeLine_eq];lia,?_⟩;intro h' hnew _ kp;obtain⟨⟨c1,d1,dt1,sl1⟩,es3,ep3,ho3,⟨rfl,rfl,rfl⟩,hdt3,hk3,hp3,hn3⟩:=hnew;replace hdt3:dt1=.dict es3 ep3:=hdt3;subst hdt3;obtain⟨es3⟩:=es3;have R':=R.kept kp (Nat.le_refl _) ho3;have xn:aH imm cs ((s.heap.objs.size,dictOf es3 ep3)::imm) cs:=⟨fun U h=>.tail _ h,fun U U h=>h⟩;refine kk h' s.toks _ _ (.ref s.heap.objs.size) R' xn (.dict (.inl (.head _)) ⟨?_,Fw C.T.g R.F.keep⟩ (ao.pairsOf hp3 e2 (v2.ext xn)));rw[hw];exact Gw fun e he=>hk3 e (by simpa using he)
end
end
noncomputable def q6(Y:Pi):Prop:=Y.nm 0=Str.ofString "append"∧Y.nm 1=Str.ofString "pop"∧Y.nm 2=Str.ofString "join"∧Y.nm 3=Str.ofString "startswith"∧Y.nm 4=Str.ofString "copy"
theorem px{α:Type}{b:Bool}{x y:Option α}{r:α}(h:(Bool.rec (motive:=fun U=>Option α) x y b)=some r):(b=true∧y=some r)∨(b=false∧x=some r):=by
 induction b using oB with
 |true=>exact .inl ⟨rfl,h⟩
 |false=>exact .inr ⟨rfl,h⟩
noncomputable def uy(Γ:ar)(σ:St)(ov:AV)(x:Str)(id:BM):Prop :=
 ∀ {c A s m ls imm cs va pl} {n:Nat} {Q:Value×List Value→Shared→Prop} {E:Value→Shared→Prop},bp Γ c A n→aj Γ c.h₀ c.L s.heap m ls σ imm cs→VR Γ imm (ae cs) va ov→Q (.builtin id.id,[va]) s→wpAny (model Γ.prog Γ.w) A (getMethod va x pl) Q E s
section
variable {σ:St}{x:Str}{id:BM}
theorem Oq(hnm:q6 Y){k:Nat}{c:aw}(hx:ak σ k=some c)(hc:BZ c=true)(h:Aj Y x=some id):uy Γ σ (.cell k) x id:=by
 apply d5 hnm;intro n0 n1 _;have hh:(x=Str.ofString "append"∧id=.append)∨(x=Str.ofString "pop"∧id=.pop):=by
  rcases px h with ⟨q,h⟩|⟨_,h⟩
  ·(apply j1 h;clear h;rintro rfl);exact .inl ⟨by rw[←hU.mp q] at n0;exact n0,rfl⟩
  ·rcases px h with ⟨q,h⟩|⟨_,h⟩
   ·(apply j1 h;clear h;rintro rfl);exact .inr ⟨by rw[←hU.mp q] at n1;exact n1,rfl⟩
   ·injection h
 intro c' A s m ls imm cs va pl n Q E C R hv kk;apply ah hv.cell_inv;intro a e0 ha;subst e0;apply dD (R.C.cell ha hx);intro d pre post e0 l e2 cr;subst e0;have:∃ vs nn,s.heap.get? a=some (listOf vs nn):=by
  induction c using aw.casesOn with
  |list=>obtain⟨b,vs,nn,rfl,_⟩:=cr.list_inv;(obtain e:=CC.same e2;subst e);exact⟨_,_,(R.N _ (R.has (d:=.list b vs nn) (.head _))).1⟩
  |rows=>obtain⟨b,vs,nn,rfl,_⟩:=cr.rows_inv;(obtain e:=CC.same e2;subst e);exact⟨_,_,(R.N _ (R.has (d:=.list b vs nn) (.head _))).1⟩
  |inst=>injection hc
  |any=>injection hc
 apply rA this;intro vs nn hg;rcases hh with ⟨rfl,rfl⟩|⟨rfl,rfl⟩<;>dsimp only [BM.id] at kk
 ·exact getMethod_builtin ⟨_,hg,rfl⟩ F.plainAttrs_list F.slot_list_append F.type_list_append (fun a e=>by (injection e with e;subst e);exact⟨_,hg,rfl⟩) kk
 ·exact getMethod_builtin ⟨_,hg,rfl⟩ F.plainAttrs_list F.slot_list_pop F.type_list_pop (fun a e=>by (injection e with e;subst e);exact⟨_,hg,rfl⟩) kk
theorem OZ(hnm:q6 Y){ss:SS}(h:DQ Y x=some id):uy Γ σ (.str ss) x id:=by
 apply oM hnm;intro _ _ n2 n3 _;intro c' A s m ls imm cs va pl n Q E C R hv kk;apply ah hv.str_inv;intro t e0 _;subst e0;rcases px h with ⟨q,h⟩|⟨_,h⟩
 ·(apply j1 h;clear h;rintro rfl)
  have e:x=Str.ofString "join":=by rw[←hU.mp q] at n2;exact n2
  subst e;exact @getMethod_builtin (model Γ.prog Γ.w) A E s (.str (aG (ss.val Γ.ε)) t) "str" (Str.ofString "join") "str.join" pl Q (typeIs_str s (aG (ss.val Γ.ε)) t) F.plainAttrs_str F.slot_str_join F.type_str_join (fun a e=>by injection e) kk
 ·rcases px h with ⟨q,h⟩|⟨_,h⟩
  ·(apply j1 h;clear h;rintro rfl)
   have e:x=Str.ofString "startswith":=by rw[←hU.mp q] at n3;exact n3
   subst e;exact @getMethod_builtin (model Γ.prog Γ.w) A E s (.str (aG (ss.val Γ.ε)) t) "str" (Str.ofString "startswith") "str.startswith" pl Q (typeIs_str s (aG (ss.val Γ.ε)) t) F.plainAttrs_str F.slot_str_startswith F.type_str_startswith (fun a e=>by injection e) kk
  ·injection h
theorem Ku(hnm:q6 Y){es:List (List Nat×AV)}(h:Cr Y x=some id):uy Γ σ (.dict es) x id:=by
 apply oM hnm;intro _ _ _ _ n4;intro c' A s m ls imm cs va pl n Q E C R hv kk;apply dD hv.dict_inv;intro a es' nn e0 hk _ _;subst e0;have hg:=R.kn C.X hk;rcases px h with ⟨q,h⟩|⟨_,h⟩
 ·(apply j1 h;clear h;rintro rfl)
  have e:x=Str.ofString "copy":=by rw[←hU.mp q] at n4;exact n4
  subst e;dsimp only [BM.id] at kk;exact getMethod_builtin ⟨_,hg,rfl⟩ F.plainAttrs_dict F.slot_dict_copy F.type_dict_copy (fun a e=>by (injection e with e;subst e);exact⟨_,hg,rfl⟩) kk
 ·injection h
theorem JN(hnm:q6 Y)(h:zu Y σ ov x=some id):uy Γ σ ov x id:=by
 induction ov using AV.casesOn with
 |cell k=>
  apply aI (show (ob (ak σ k) fun c=>gd (BZ c) (Aj Y x))=some id from h);intro c h1 h;apply bJ h;intro h2 h;exact Oq hnm h1 h2 h
 |str s=>exact OZ hnm h
 |dict es=>exact Ku hnm h
 |_=>injection h
end
theorem HL(hw:Γ.ε.P=Γ.w.params)(he:Γ.ε.Ok)(hb:aM Y.β Γ.ε)(hnm:q6 Y):sL Γ Y:=by
 intro σ0 ov x id hid;refine⟨JN hnm hid,?_⟩;intro σ vs r σ' h;cases id with
 |append=>exact Ut hb _ h
 |pop=>exact Qx _ h
 |join=>exact S0 he hb _ h
 |starts=>exact Qz _ h
 |copy=>exact Kq hw _ h
end
end
section
section
variable {Γ:ar}{β:Bd}{Y:Pi}
theorem ER(hy:∀ C c,Y.ci C=some c→ec Γ C c)(h:nb Y D C=some b):kitOne Γ.K (.ref D) (.ref C)=some b:=by
 apply aI h;clear h;intro c h1 h;apply aI h;clear h;intro c' h2 h;(apply j1 h;clear h;rintro rfl);have o1:=(hy _ _ h1).isa;have o2:=(hy _ _ h2).isa;obtain⟨⟨cd,e1,e2,e3⟩,_,e4⟩:=o1;obtain⟨⟨cd',f1,_,_⟩,f2,_⟩:=o2;unfold kitOne
 by_cases q:(Value.ref D == Value.ref C)=true
 ·rw[if_pos q]
  have:D=C:=Value.ref.inj (beq_iff_eq.mp q);subst this;rw[e4]
 ·rw[if_neg q]
  unfold kitCls;dsimp only;rw[if_pos (by rw[f1,f2];rfl)];show mroIn Γ.K D (.ref C)=_;unfold mroIn;rw[e1];show (if cd.mro.isEmpty then none else some (cd.mro.contains (.ref C)))=_;rw[e2,if_neg (by decide),e3]
theorem Fy(hy:∀ C c,Y.ci C=some c→ec Γ C c)(h:o6 Y σ v C=some b)(R:aj Γ h₀ L hp m ls σ imm cs)(hv:VR Γ imm (ae cs) va v) :
  ∃ x D d od,va=.ref x∧InstAt hp x (instObj D d) D (some od)∧∀ C b,o6 Y σ v C=some b→nb Y D C=some b:=by
 induction v using AV.casesOn with
 |obj D fs=>
  apply rB hv.obj_inv;intro a d es n e0 h1 h2 hf hp hc;subst e0;exact⟨a,_,d,_,rfl,InstAt.of_news R.N (bq _ h1) (bq _ h2),fun C b h=>h⟩
 |cell k=>
  apply b5 (show (obp (mL σ k) fun D U=>nb Y D C)=some b from h);intro D fs e _;apply ah hv.cell_inv;intro a e0 ha;subst e0;apply dD (R.C.cell ha (qM e));intro d pre post e0 l e2 cr;subst e0;apply nu cr.inst_inv;intro b' d es n e0 hf hp hc;subst e0;(obtain e:=CC.same e2;subst e);refine⟨_,D,d,_,rfl,InstAt.of_news R.N (R.has (d:=.inst b' D d es n) (.head _)) (R.has (d:=.inst b' D d es n) (.tail _ (.head _))),fun C b h=>?_⟩;have h:(obp (mL σ k) fun D U=>nb Y D C)=some b:=h;rw[e] at h;exact h
 |_=>injection h
theorem GB(h:nb Y D C=some b):∃ c,Y.ci D=some c:=by
 apply aI h;intro c h1 _;exact⟨c,h1⟩
theorem GP(hy:∀ C c,Y.ci C=some c→ec Γ C c)(h:Y.ci D=some c):KitX Γ.K (.ref x) (.ref D) (fun h=>InstAt h x (instObj D d) D (some od)):=by
 have ok:=hy _ _ h;apply oM ok.kin;intro k1 k2 k3 k4 k5;exact kitx_own k1 ok.cls.hd k2 k3 k4 k5
theorem LE(hy:∀ C c,Y.ci C=some c→ec Γ C c)(hD:∀ C b,o6 Y σ v C=some b→nb Y D C=some b)(g:ao Γ imm ρ vs xs):sN Y σ v xs=some b→kitAny Γ.K (.ref D) vs=some b:=by
 induction g using ao.ind generalizing b with
 |nil=>intro h;(apply j1 h;clear h;rintro rfl);rfl
 |cons hv hr ih=>
  intro h;apply aI h;intro C e hj;apply aI hj;clear hj;intro q e2 hj;(obtain e:=Oy e;subst e);(obtain e:_=_:=VR.inv hv;subst e);unfold kitAny;rw[ER hy (hD _ _ e2)];induction q using oB with
  |true=>(injection hj with e;subst e);rfl
  |false=>exact ih hj
theorem PZ(h:sN Y σ v xs=some b)(hne:xs≠[]):∃ C b',o6 Y σ v C=some b':=by
 induction xs using oL with
 |nil=>exact absurd rfl hne
 |cons x xs=>
  apply aI h;clear h;intro C e h;apply aI h;clear h;intro q e2 h;exact⟨_,_,e2⟩
end
end
section
section
variable {Γ:ar}{β:Bd}{Y:Pi}
theorem Tg(he:Γ.ε.Ok)(h:F1 σ v=some l){s:Shared}{Q E:Value→Shared→Prop}
  (C:bp Γ c A n) (R:aj Γ c.h₀ c.L s.heap m ls σ imm cs) (hv:VR Γ imm (ae cs) va v) (k:∀ tk val,VR Γ imm (ae cs) val (.int l)→Q val {s with toks:=tk}):wpAny (model Γ.prog Γ.w) A (call (.builtin "len") [va] []) Q E s:=by
 induction v using AV.casesOn with
 |str ss=>
  (apply j1 h;rintro rfl);have hl:=hv.str_len;apply ah hv.str_inv;intro t e0 o;subst e0;refine PySem.P.len_str (by rw[eM];lia) ?_;rw[eM];exact k _ _ (.int (jn he o).symm)
 |cell kk=>
  apply aI (show (ob (eq σ kk) fun xs=>some (am.k (.ofNat (aA xs))))=some l from h);intro xs e h;(apply j1 h;rintro rfl);apply kq (R.lst hv (g6 e));intro a vs' nn pre post e0 _ _ g1 v1 z1;subst e0;refine call_len_list ⟨_,g1,rfl,_,rfl⟩ (by rw[List.size_toArray,v1.len];lia) ?_;refine k _ _ (.int ?_);rw[List.size_toArray,v1.len,bV,b7];rfl
 |tup xs=>
  apply bJ (show (gd (Nat.ble (aA xs) 1000000) (some (am.k (.ofNat (aA xs)))))=some l from h);intro e h;(apply j1 h;rintro rfl);have e:=df e;rw[b7] at e;apply eZ hv.tup_inv;intro a vs' nn e0 hk v1;subst e0;refine len_tuple ⟨_,R.kn C.X hk,rfl,_,rfl⟩ (by rw[List.size_toArray,v1.len];lia) ?_;refine k _ _ (.int ?_);rw[List.size_toArray,v1.len,bV,b7];rfl
 |_=>injection h
noncomputable abbrev ph (Γ:ar) (n:Nat) (f:BF) (vs:List AV) (σ:St) (q:AV×St):Prop:=jp Γ n σ (.bi f) vs [] q.1 q.2
theorem mH{kwv:List (Str×Value)}{kw:List (Str×AV)}(h:kwv.map (·.1)=kw.map (·.1))(e:kw=[]):kwv=[]:=by subst e;induction kwv using oL with|nil=>rfl|cons=>injection h
section
variable {n:Nat}{σ:St}{vs:List AV}
theorem SJ(he:Γ.ε.Ok):OB (GV σ vs) (ph Γ n .len vs σ):=OB.ob fun v h1=>OB.ob fun l h2=>OB.pure fun {c A s m ls imm cs fval vals kwv Q E} C R hv ha hk hk2 k=>by
 obtain rfl:=mH hk rfl;(obtain e:=k9 h1;subst e);apply ah ha.one;intro val e0 hv1;subst e0;(obtain e:_=_:=VR.inv hv;subst e);exact Tg he h2 C R hv1 fun tk val q=>k s.heap tk imm cs val R (aH.refl ..) q
theorem RG(hy:∀ C c,Y.ci C=some c→ec Γ C c):OB (Js Y σ v t) (ph Γ n .isi [v,t] σ):=by
 induction t using AV.casesOn with
 |cls D=>
  show OB (ob (o6 Y σ v D) fun b=>some (AV.bool b,σ)) _;exact OB.ob fun b h1=>OB.pure fun {c A s m ls imm cs fval vals kwv Q E} C R hv ha hk hk2 k=>by
   obtain rfl:=mH hk rfl;(obtain e:_=_:=VR.inv hv;subst e);obtain⟨_,_,e0,hv,hn⟩:=ao.inv ha;clear ha;subst e0;apply ah hn.one;intro val e0 hc;subst e0;(obtain e:_=_:=VR.inv hc;subst e);apply ow (Fy hy h1 R hv);intro x D' d od e0 I e;subst e0;replace e:=e _ _ h1;apply bx (GB e);intro ci hci;exact kia_one (GP hy hci) (C.X.keeps R.F.keep) I (ER hy e) (by intro z;injection z) fun tk=>k s.heap tk imm cs _ R (aH.refl ..) (.bool _)
 |tup xs=>
  show OB (gd (Bool.rec true false (aF xs)) (ob (sN Y σ v xs) fun b=>some (AV.bool b,σ))) _;exact OB.gd fun h0=>OB.ob fun b h1=>OB.pure fun {c A s m ls imm cs fval vals kwv Q E} C R hv ha hk hk2 k=>by
   obtain rfl:=mH hk rfl;(obtain e:_=_:=VR.inv hv;subst e);obtain⟨_,_,e0,hv,hn⟩:=ao.inv ha;clear ha;subst e0;apply ah hn.one;intro val e0 hc;subst e0;apply eZ hc.tup_inv;intro a vs' nn e0 hk v1;subst e0;have hne:xs≠[]:=by rintro rfl;injection h0
   apply rA (PZ h1 hne);intro C0 b0 hh;apply ow (Fy hy hh R hv);intro x D' d od e0 I e;subst e0;apply bx (GB (e _ _ hh));intro ci hci;exact kia_tup (GP hy hci) (C.X.keeps R.F.keep) I (R.kn C.X hk) (LE hy e v1 h1) (by intro z;injection z) fun tk=>k s.heap tk imm cs _ R (aH.refl ..) (.bool _)
 |_=>exact OB.no
theorem QA(hy:∀ C c,Y.ci C=some c→ec Γ C c):OB (Fk Y σ vs) (ph Γ n .isi vs σ):=by
 match vs with
 |[v,t]=>exact RG hy
 |[]=>exact OB.no
 |[_]=>exact OB.no
 |_::_::_::_=>exact OB.no
theorem QJ:OB (HT σ vs) (ph Γ n .ord vs σ):=OB.ob fun v h1=>OB.ob fun l h2=>OB.ob fun ch h3=>OB.pure fun {c A s m ls imm cs fval vals kwv Q E} C R hv ha hk hk2 k=>by
 obtain rfl:=mH hk rfl;(obtain e:=k9 h1;subst e);apply ah (nH h2);intro ss e0 e;subst e0;(obtain e:=k9 h3;subst e);apply ah ha.one;intro val e0 hv1;subst e0;(obtain e:_=_:=VR.inv hv;subst e);apply ah hv1.str_inv;intro t e0 o;subst e0;rw[mG e];exact PySem.P.ord_of_char (k s.heap _ imm cs _ R (aH.refl ..) (.int (bV _).symm))
theorem Jz:OB (G7 σ vs) (ph Γ n .range vs σ):=OB.ob fun v h1=>OB.ob fun i h2=>OB.ob fun j h3=>OB.gd fun h4=>OB.pure fun {c A s m ls imm cs fval vals kwv Q E} C R hv ha hk hk2 k=>by
 obtain rfl:=mH hk rfl;(obtain e:=k9 h1;subst e);apply ah (kd h2);intro l e0 e;subst e0;have hi:i=Int.ofNat j:=by cases i<;>(first|apply j1 h3;rintro rfl|injection h3);rfl
 subst hi;apply ah ha.one;intro val e0 hv1;subst e0;(obtain e:_=_:=VR.inv hv;subst e);apply bx hv1.int_inv;intro t e0;subst e0;rw[gb e];exact call_range_1 (k _ _ _ _ _ (R.newI (y0 j s.toks t (s.toks+1)) rfl) (R.extI _) (.rng (.head _) (df h4)))
theorem Lc(n:Nat)(h:n<10):Str.ofString (toString (Int.ofNat n))=aG [n+48]:=(by decide +kernel:∀ n∈List.range 10,Str.ofString (toString (Int.ofNat n))=aG [n+48]) n (eU h)
theorem OU:OB (HM σ vs) (ph Γ n .str vs σ):=OB.ob fun v h1=>OB.ob fun i h2=>OB.ob fun j h3=>OB.gd fun h4=>OB.pure fun {c A s m ls imm cs fval vals kwv Q E} C R hv ha hk hk2 k=>by
 obtain rfl:=mH hk rfl;(obtain e:=k9 h1;subst e);apply ah (kd h2);intro l e0 e;subst e0;have hi:i=Int.ofNat j:=by cases i<;>(first|apply j1 h3;rintro rfl|injection h3);rfl
 subst hi;apply ah ha.one;intro val e0 hv1;subst e0;(obtain e:_=_:=VR.inv hv;subst e);apply bx hv1.int_inv;intro t e0;subst e0;rw[gb e];have hj:j<10:=df h4;refine PySem.P.str_of_int ?_ ?_
 ·show j.log2<1920
  by_cases hz:j=0
  ·subst hz;decide
  ·exact(Nat.log2_lt hz).mpr (Nat.lt_of_lt_of_le hj (by decide))
 ·refine k _ _ _ _ _ R (aH.refl ..) (.str ((Lc j hj).trans (congrArg aG (af _).symm)) (gG [j+48]) (by show ([j+48]++[]).length≤16777216;simp))
theorem JJ(hb:aM Y.β Γ.ε):OB (Dl Y.β σ vs) (ph Γ n .max vs σ):=by
 match vs with
 |[a,b]=>
  show OB (ob (eG a) fun x=>ob (eG b) fun y=>ob (lD Y.β x y) fun t=>some (AV.int (Bool.rec x y t),σ)) _;refine OB.ob fun x h1=>OB.ob fun y h2=>OB.ob fun t h3=>OB.pure fun {c A s m ls imm cs fval vals kwv Q E} C R hv ha hk hk2 k=>?_;obtain rfl:=mH hk rfl;(obtain e:=gE h1;subst e);(obtain e:=gE h2;subst e);(obtain e:_=_:=VR.inv hv;subst e);obtain⟨_,_,e0,ha1,ha2⟩:=ao.inv ha;clear ha;subst e0;apply ah ha2.one;intro val e0 hv2;subst e0;apply bx ha1.int_inv;intro t e0;subst e0;apply bx hv2.int_inv;intro u e0;subst e0;have h1:=ul hb h3;subst h1;refine max_two_N C.hd R.F R.N fun h' tk F' N'=>k h' tk imm cs _ ⟨F',N',R.nd,R.C,R.l⟩ (aH.refl ..) ?_
  by_cases q:x.val Γ.ε<y.val Γ.ε
  ·rw[if_pos q,decide_eq_true q];exact .int rfl
  ·rw[if_neg q,decide_eq_false q];exact .int rfl
 |[]=>exact OB.no
 |[_]=>exact OB.no
 |_::_::_::_=>exact OB.no
end
theorem xP(hw:Γ.ε.P=Γ.w.params)(he:Γ.ε.Ok)(hb:aM Y.β Γ.ε)(hy:∀ C c,Y.ci C=some c→ec Γ C c)(h:bf Y σ f vs=some (r,σ')):vF Γ (.bi f)∧jp Γ n σ (.bi f) vs [] r σ':=by
 refine⟨fun hv X hi=>by (obtain e:_=_:=VR.inv hv;subst e);cases f<;>exact⟨.machine,.inr (.inl rfl),.of_pure rfl⟩,?_⟩;cases f with
 |len=>exact SJ he _ h
 |isi=>exact QA hy _ h
 |ord=>exact QJ _ h
 |range=>exact Jz _ h
 |str=>exact OU _ h
 |max=>exact JJ hb _ h
 |enum=>injection h
end
end
section
noncomputable def Em(f:List Nat)(n:Nat)(r:List Nat):Prop:=∀ t u,Builtin.Str.percentFormat (.str (aG f) t) (aG f) (.int n u)=(do ret (←mkStr (aG r)))
theorem Jt:Em [92,120,37,48,50,88] 233 [92,120,69,57]:=fun t u=>by
 show Builtin.Str.percentFormat (.str ⟨#[92,120,37,48,50,88]⟩ t) ⟨#[92,120,37,48,50,88]⟩ (.int 233 u)=(do ret (←mkStr ⟨#[92,120,69,57]⟩));kernel_rfl
theorem Qb:∀ p∈CQ,Em p.1 p.2.1 p.2.2∧p.2.1<1000∧p.2.2.length<1000:=fun p hp=>by
 rcases bU hp with rfl|hp
 ·exact⟨Jt,by decide,by decide⟩
 ·cases hp
set_option smartUnfolding false in
theorem Oc:∀ {l:List (List Nat×Nat×List Nat)},xf f n l=some r→(f,n,r)∈l:=by
 intro L0;induction L0 with
 |nil=>
  intro h;injection h
 |cons p l ih=>
  intro h;replace h:Bool.rec (motive:=fun U=>Option (List Nat)) (xf f n l) (some p.2.2) (co p.1 f&&Nat.beq p.2.1 n)=some r:=h;cases q:(co p.1 f&&Nat.beq p.2.1 n) with
  |true=>
   rw[q] at h;replace q:=aB q;rw[←osI h,←gJ.mp q.1,←bX q.2];exact .head _
  |false=>rw[q] at h;exact .tail _ (ih h)
section
variable {Γ:ar}{β:Bd}{Y:Pi}
theorem S5(h:uN i=some n):i=Int.ofNat n:=by cases i<;>(first|apply j1 h;rintro rfl|injection h);rfl
theorem TX:w1 Γ:=by
 intro f b r h;apply aI h;clear h;intro l h1 h;apply aI h;clear h;intro y hi h;apply aI (show Fb l y=some r from h);clear h;intro n h3 h;apply aI h;clear h;intro q h4 h;(apply j1 h;clear h;rintro rfl);apply ah (kd hi);intro x e0 h2;subst e0;(obtain e:=S5 h3;subst e);apply d5 (Qb _ (Oc h4));intro o1 o2 o3;intro A s Q E imm ρ va vb ha hb k;apply ah ha.str_inv;intro t e0 _;subst e0;apply bx hb.int_inv;intro u e0;subst e0;rw[mG h1,gb h2];replace o2:n<1000:=o2;have hm:Meets (Builtin.«str.__mod__» ⟨[.str (aG l) t,.int n u],[]⟩) (fun U R s=>∀ t' k,R (.ok (.ret (.str (aG q) t'))) {s with toks:=k}):=KPc.meets_of fun U U A s Q E h=>by
  rw[KPc.entry_is,o1];exact wpAny_bind (wpAny_mkStr (wpAny_pure (h _ _)) (by rw[eM,sizeLine_eq];have:=o3;dsimp only at this;lia))
 refine KPc.mod_lit (n:=(n:Int)) rfl ?_ (fun U U=>hm) fun t' k'=>?_
 ·show n.log2<1920
  by_cases hz:n=0
  ·subst hz;decide
  ·exact(Nat.log2_lt hz).mpr (Nat.lt_of_lt_of_le o2 (by decide))
 ·exact k k' _ (.str (by rw[db]) (gG _) (by rw[db];have:=o3;dsimp only at this;lia))
end
end
section
section
variable {Γ:ar}{Y:Pi}
theorem Fn(h:zS e=some a):∃ s q p,e=.Constant (.str s) q p∧s=aG a:=by
 induction e using PySem.Expr.casesOn with
 |Constant c q p=>
  induction c using PySem.Const.casesOn with
  |str s=>(apply j1 h;clear h;rintro rfl);exact⟨s,q,p,rfl,rfl⟩
  |_=>injection h
 |_=>injection h
noncomputable def vz(pos:Pos)(c:Cx):List (Option Expr)→List Expr→List (Sem Value×Sem Value)
 |some k::ks,v::vs=>(eval k c.env,do let x ←eval v c.env;standAt pos;pure x)::vz pos c ks vs
 |_,_=>[]
inductive pR:List (Value×Value)→List (List Nat×List Nat)→Prop
 |nil:pR [] []
 |cons {a b:List Nat} {t u:Tok} {ws:List (Value×Value)} {l:List (List Nat×List Nat)}:pR ws l→pR ((.str (aG a) t,.str (aG b) u)::ws) ((a,b)::l)
theorem Cm(pos:Pos)(c:Cx):∀ {ks:List (Option Expr)} {vs:List Expr} {l:List (List Nat×List Nat)},uz ks vs=some l →
  (evalEachOpt ks c.env).zip ((evalEach vs c.env).map fun v=>do let x ←v;standAt pos;pure x)=(vz pos c ks vs).map (fun p=>(some p.1,p.2))∧(vz pos c ks vs).length=l.length
 |[],[],l,h=>by (apply j1 h;clear h;rintro rfl);exact⟨rfl,rfl⟩
 |[],_::_,_,h=>by injection h
 |none::_,_,_,h=>by injection h
 |some _::_,[],_,h=>by injection h
 |some k::ks,v::vs,l,h=>by
  apply aI h;clear h;intro a h1 h;apply aI h;clear h;intro b h2 h;apply aI h;clear h;intro r h3 h;(apply j1 h;clear h;rintro rfl);apply aN (Cm pos c h3);intro e1 e2;exact⟨congrArg (_::·) e1,congrArg (·+1) e2⟩
theorem Et(pos:Pos)(c:Cx){E:Value→Shared→Prop}:∀ {ks:List (Option Expr)} {vs:List Expr} {l:List (List Nat×List Nat)},uz ks vs=some l→∀ (s:Shared) (Q:List (Value×Value)→Shared→Prop),
  (∀ tk ws,pR ws l→Q ws {s with toks:=tk})→wpAny (model Γ.prog Γ.w) A (evalPairs (vz pos c ks vs)) Q E s
 |[],[],l,h,s,Q,k=>by (apply j1 h;clear h;rintro rfl);exact evalPairs_nil (k s.toks _ .nil)
 |[],_::_,_,h,_,_,_=>by injection h
 |none::_,_,_,h,_,_,_=>by injection h
 |some _::_,[],_,h,_,_,_=>by injection h
 |some e::ks,v::vs,l,h,s,Q,k=>by
  apply aI h;clear h;intro a h1 h;apply aI h;clear h;intro b h2 h;apply aI h;clear h;intro r h3 h;(apply j1 h;clear h;rintro rfl);apply mC (Fn h1);intro x q p e0 e01;subst e0;subst e01;apply mC (Fn h2);intro y q2 p2 e0 e01;subst e0;subst e01;refine evalPairs_cons (wpAny_mkText (wpAny_bind (wpAny_mkText (wpAny_bind (wpAny_standAt (wpAny_pure ?_))))));exact Et pos c h3 _ _ fun tk ws hw=>k tk _ (.cons hw)
theorem pR.pairs(h:pR ws l)(hl:(l.all fun p=>Nat.ble (aA p.1) 1000&&Nat.ble (aA p.2) 1000)=true) :
  ∃ kvs:List (Str×Value),Carries (strKind Γ.prog Γ.w) ws kvs∧kvs.map (·.1)=(l.map fun p=>(p.1,AV.str (.k p.2))).map (fun q=>aG q.1)∧ao Γ imm ρ (kvs.map (·.2)) ((l.map fun p=>(p.1,AV.str (.k p.2))).map (·.2)):=by
 induction h with
 |nil=>exact⟨[],trivial,rfl,.nil⟩
 |@cons a b t u ws l _ ih=>
  rw[List.all_cons,Bool.and_eq_true] at hl;apply dh (ih hl.2);intro kvs h1 h2 h3;have hb:=df (aB hl.1).2;rw[b7] at hb;exact⟨(aG a,.str (aG b) u)::kvs,⟨strKind_is Γ.prog Γ.w (aG a) t,rfl,h1⟩,congrArg (_::·) h2,.cons (.str (by rw[db]) (gG _) (by rw[db];have hb:b.length≤1000:=hb;lia)) h3⟩
set_option smartUnfolding false in
theorem SW{α:Type}{l:List (List Nat×α)}(f:α→AV)(h:jj (l.map fun p=>(p.1,f p.2))=true):((l.map fun p=>(p.1,f p.2)).map fun q=>aG q.1).Nodup:=by
 induction l with
 |nil=>exact .nil
 |cons a r ih=>
  rw[List.map_cons] at h;replace h:=aB (show (!gw a.1 (r.map fun p=>(p.1,f p.2))&&jj (r.map fun p=>(p.1,f p.2)))=true from h);rw[List.map_cons,List.map_cons];refine List.nodup_cons.mpr ⟨fun q=>?_,ih h.2⟩;apply ah (dm q);intro z hz e;have:gw a.1 (r.map fun p=>(p.1,f p.2))=false:=by have:=h.1;cases hq:gw a.1 (r.map fun p=>(p.1,f p.2)) with|false=>rfl|true=>rw[hq] at this;cases this
  exact DP this z hz (zK e)
set_option smartUnfolding false in
theorem Uh{α:Type}(f g:α→AV):∀ l:List (List Nat×α),jj (l.map fun p=>(p.1,f p.2))=jj (l.map fun p=>(p.1,g p.2)):=by
 intro L0;induction L0 with
 |nil=>
  exact rfl
 |cons a r ih=>
  have e:∀ (x:List Nat) (l:List (List Nat×α)),gw x (l.map fun p=>(p.1,f p.2))=gw x (l.map fun p=>(p.1,g p.2)):=fun x l=>by
   induction l with
   |nil=>rfl
   |cons b t ih=>rw[List.map_cons,List.map_cons];show Bool.rec (motive:=fun U=>Bool) (gw x (t.map fun p=>(p.1,f p.2))) true (co b.1 x)=Bool.rec (motive:=fun U=>Bool) (gw x (t.map fun p=>(p.1,g p.2))) true (co b.1 x);rw[ih]
  rw[List.map_cons,List.map_cons];show (!gw a.1 (r.map fun p=>(p.1,f p.2))&&jj (r.map fun p=>(p.1,f p.2)))=(!gw a.1 (r.map fun p=>(p.1,g p.2))&&jj (r.map fun p=>(p.1,g p.2)));rw[ih,e]
theorem Sl(hw:Γ.ε.P=Γ.w.params)(h:Il σ ks vs=some (v,σ')):b9 Γ n (fun c=>eval (.Dict ks vs pos) c.env) ls σ v σ':=by
 apply aI h;clear h;intro l h1 h;apply bJ h;clear h;intro h2 h;apply bJ h;clear h;intro h3 h;(apply j2 h;clear h;rintro rfl rfl);simp only [Bool.and_eq_true] at h2;apply d5 h2;intro z1 z2 z3;replace z1:=df z1;replace z2:=df z2;rw[b7] at z1 z2;intro c A s m imm cs Q E C lk Rp k;apply aN (Cm pos c h1);intro e1 e2;refine wpAny_Dict_pairs (knd:=strKind Γ.prog Γ.w) e1 (fun q=>by rw[q] at e2;exact absurd z1 (by rw[←e2];decide)) (by rw[e2];exact z2) ?_;refine Et pos c h1 _ _ fun tk ws hws=>?_;apply dh (hws.pairs (Γ:=Γ) (imm:=imm) (ρ:=ae cs) (List.all_eq_true.mpr fun p hp=>by simpa using aq z3 p hp));intro kvs g1 g2 g3;have nd:(kvs.map (·.1)).Nodup:=by
  rw[g2];exact SW (fun b=>AV.str (.k b)) (by rw[Uh (fun b=>AV.str (.k b)) (fun U=>.none)];exact h3)
 refine⟨kvs,g1,Heap.DictOf.new s.heap,fun h' hd hs=>?_⟩;rw[merged_nil_of_nodup _ nd] at hd;obtain⟨⟨c1,d1,dt1,sl1⟩,es3,ep3,ho3,⟨rfl,rfl,rfl⟩,hdt3,hk3,hp3,hn3⟩:=hd;replace hdt3:dt1=.dict es3 ep3:=hdt3;subst hdt3;obtain⟨es3⟩:=es3;have kp:∀ b o,s.heap.get? b=some o→h'.get? b=some o:=fun b o e=>hs.extBut b o (Nat.ne_of_lt (Heap.lt_size e)) (Heap.get?_push_of_some _ e);have R':=Rp.kept kp (Nat.le_refl _) ho3;have xn:aH imm cs ((s.heap.objs.size,dictOf es3 ep3)::imm) cs:=⟨fun U h=>.tail _ h,fun U U h=>h⟩;refine k h' _ _ _ (.ref s.heap.objs.size) R' xn (.dict (.inl (.head _)) ⟨?_,Fw C.T.g Rp.F.keep⟩ (ao.pairsOf hp3 g2 (g3.ext xn)));rw[hw];exact Gw fun e he=>hk3 e (by simpa using he)
theorem JW(C:bp Γ c A n)(R:aj Γ c.h₀ c.L h m ls σ imm cs) :
  Below A c.base c.fr (hideAll h ((imm++aL cs).map (·.1)))∧c.h₀.StaysIn (hideAll h ((imm++aL cs).map (·.1))):=by
 have nm:∀ b o,c.h₀.get? b=some o→b ∉ (imm++aL cs).map (·.1):=fun b o e q=>by
  apply ah (dm q);intro p hp e0;subst e0;rw[(R.N p hp).2.2] at e;cases e
 have st:c.h₀.StaysIn (hideAll h ((imm++aL cs).map (·.1))):=fun b o e=>hideAll_get _ (R.F.keep b o e) (nm b o e);refine⟨?_,st⟩;apply bx C.B;intro A₀ B;have cfr:=C.fr;cases hu:c.up with
 |some fl=>
  have hfr:c.fr=c.outer:=by unfold Cx.fr;rw[hu]
  rw[hfr] at cfr ⊢;exact⟨cfr,fun b o e=>st b o (B.stays b o e),B.frames.of_keeps fun b o e U=>⟨o,st b o e,rfl⟩⟩
 |none=>
  have hfr:c.fr=envOf c.cn c.cs c.L c.a c.cd::c.outer:=by unfold Cx.fr Cx.env;rw[hu]
  rw[hfr] at cfr ⊢;have nL:c.L ∉ (imm++aL cs).map (·.1):=fun q=>by
   apply ah (dm q);intro p hp e;exact(R.N p hp).2.1 e
  have B₁:=B.push (name:=c.cn) (scope:=c.cs) (a:=c.a) (cd:=c.cd) R.F C.k;exact⟨cfr,fun b o e=>st b o (B.stays b o e),funFrames_hideAll B₁.frames fun env he b hb hf=>by
   cases he with
   |head=>exact nL ((osI hf:c.L=b)▸hb)
   |tail _ he=>
    apply tT (funFrames_in B.frames env he);intro L₁ o₁ hf₁ ho₁;rw[hf₁] at hf;exact nm L₁ o₁ ho₁ ((osI hf:L₁=b)▸hb)⟩
theorem Dg{R:Result→Shared→Prop}
  (h:wpAny (model Γ.prog Γ.w) A (pyNext it) (fun r s₁=>match r with
   |none=>R (.ok .next) s₁
   |some v=>wpAny (model Γ.prog Γ.w) A (letOwnedTupleGo target it v) (fun U s₂=>wpAny (model Γ.prog Γ.w) A (assign target env v) (fun U s₃=>wpAny (model Γ.prog Γ.w) A (eval elt env) (fun x s₄=>
    wpAny (model Γ.prog Γ.w) A (call (.builtin "list.append") [acc,x]) (fun U s₅=>codeAny (model Γ.prog Γ.w) A (.compLoop (.ListComp elt [⟨target,iter,[],0⟩] scope pos) 0 it acc env) R s₅) (notedBy (model Γ.prog Γ.w) A env fun e s'=>R (.error e) s') s₄)
    (notedBy (model Γ.prog Γ.w) A env fun e s'=>R (.error e) s') s₃) (notedBy (model Γ.prog Γ.w) A env fun e s'=>R (.error e) s') s₂) (notedBy (model Γ.prog Γ.w) A env fun e s'=>R (.error e) s') s₁) (notedBy (model Γ.prog Γ.w) A env fun e s'=>R (.error e) s') s) :
  codeAny (model Γ.prog Γ.w) A (.compLoop (.ListComp elt [⟨target,iter,[],0⟩] scope pos) 0 it acc env) R s:=by
 refine codeAny_of_tree ?_;show wpAny _ A ((compTurn (.ListComp elt [⟨target,iter,[],0⟩] scope pos) 0 it acc env).onRaise (fun x=>do noteFrame x env;theTreesLotGoes x)) _ _ s;refine wpAny_noted ?_;rw[compTurn_list1];refine wpAny_bind (wpAny_standAt (wpAny_bind (wpAny_mono h (fun r s₁ h₁=>?_) fun U U h'=>h')));induction r using oO with
 |none=>exact wpAny_pure h₁
 |some v=>
  refine wpAny_bind (wpAny_mono h₁ (fun U s₂ h₂=>?_) fun U U h'=>h');exact wpAny_bind (wpAny_mono h₂ (fun U s₃ h₃=>wpAny_bind (wpAny_bind (wpAny_mono h₃ (fun x s₄ h₄=>wpAny_bind (wpAny_mono h₄
   (fun U s₅ h₅=>wpAny_pure (wpAny_pure ⟨rfl,h₅⟩)) fun U U h'=>h')) fun U U h'=>h'))) fun U U h'=>h')
theorem aj.noLs(R:aj Γ h₀ L h m ls σ imm cs):aj Γ h₀ L h m [] σ imm cs:=⟨R.F,R.N,R.nd,R.C,fun x v hx=>by injection hx⟩
inductive Cz (Γ:ar) (n:Nat) (sc:List (Str×NameKind)) (t e:Expr) (kk:Nat):It→St→St→Prop
 |stop {it:It} {σ:St}:kJ σ it=some none→Cz Γ n sc t e kk it σ σ
 |step {it it':It} {v y:AV} {ls:ac} {σ σ1 σ2 σ':St} {xs:List AV}:kJ σ it=some (some (v,it'))→jl Γ n (fun c=>assign t c.env) v ⟨[],sc⟩ σ ls σ1→b9 Γ n (fun c=>eval e c.env) ls σ1 y σ2→eq σ2 kk=some xs→xs.length≤1000 →
  Cz Γ n sc t e kk it' (dS σ2 kk (.list (xs++[y]))) σ'→Cz Γ n sc t e kk it σ σ'
theorem O1(I:bW Γ n R)(S:gM Γ n R):∀ (f:List AV) {it:It} {σ σ':St},Ad R sc t e kk f it σ=some σ'→Cz Γ n sc t e kk it σ σ':=by
 intro f;induction f with
 |nil=>intro it σ σ' h;injection h
 |cons _ f ih=>
  intro it σ σ' h;apply aI (show (ob (kJ σ it) fun x=>Option.rec (motive:=fun U=>Option St) (some σ) (fun p=>Prod.rec (fun v j=>
   obp (R.asg ⟨[],sc⟩ σ v t) fun ls σ=>obp (R.ev ls σ e) fun y σ=>ob (eq σ kk) fun xs=>gd (Nat.ble (aA xs) 1000) <|Ad R sc t e kk f j (dS σ kk (.list (xs++[y])))) p) x)=some σ' from h);intro r h1 h
  induction r using oO with
  |none=>
   (apply j1 h;clear h;rintro rfl);exact .stop h1
  |some q=>
   obtain⟨v,it'⟩:=q;apply b5 h;clear h;intro ls1 σ1 h2 h;apply b5 h;clear h;intro y σ2 h3 h;apply aI h;clear h;intro xs h4 h;apply bJ h;clear h;intro h5 h;exact .step h1 (S.asg h2) (I.ev h3) h4 (b7 xs▸df h5) (ih h)
theorem OP{sc:Scope}(ht:ie t=true)(hnd:sc.names.lookup ("__debug__" : Str)=none)(h:Cz Γ n sc.names t e kk it σ σ') :
  ∀ {c A s m imm cs D Iter} {Rq:Result→Shared→Prop},bp Γ c A n→c.cs=sc→aj Γ c.h₀ c.L s.heap m [] σ imm cs→ge imm (ae cs) Iter it→VR Γ imm (ae cs) D (.cell kk) →
  (∀ h' tk m' imm' cs',aj Γ c.h₀ c.L h' m' [] σ' imm' cs'→nM Iter imm cs imm' cs'→Rq (.ok .next) {s with heap:=h',toks:=tk})→codeAny (model Γ.prog Γ.w) A (.compLoop (.ListComp e [⟨t,iter,[],0⟩] sc pos) 0 (.ref Iter) D c.env) Rq s:=by
 induction h with
 |stop h1=>
  intro c A s m imm cs D Iter Rq C hcs Rp hi hD k;refine Dg (r8 h1 C Rp hi ?_);intro h' tk imm' R' x';exact k h' tk m imm' cs R' ⟨x',fun U U h=>h⟩
 |step h1 h2 h3 h4 h5 _ ih=>
  intro c A s m imm cs D Iter Rq C hcs Rp hi hD k;refine Dg (r8 h1 C Rp hi ?_);intro h' tk imm' val R' x' i' hv;have l0:cK c ⟨[],sc.names⟩:=⟨by rw[hcs],fun x v hx=>by injection hx,by rw[hcs];exact hnd⟩;apply ah i'.obj;intro o1 o2 o3;refine sz ht (s:={s with heap:=h',toks:=tk}) (R'.N _ (bq _ o2)).1 o3 ?_;refine h2 C l0 (s:={s with heap:=h',toks:=tk}) R' hv fun ha ta ma ia ca Ra la xa=>?_;refine h3 C la (s:={s with heap:=ha,toks:=ta}) Ra fun hz tz iz cz yv Rz xz hy=>?_;have xt:aH imm' cs iz cz:=xa.trans xz;have hD':VR Γ iz (ae cz) D (.cell kk):=by
   apply ah hD.cell_inv;intro a e0 ha;subst e0;exact .cell (xt.r _ _ ha)
  refine Cn (g6 h4) (by rw[b7];exact Nat.le_trans h5 (by decide)) C (s:={s with heap:=hz,toks:=tz}) Rz hD' hy fun hq iq cq Rq' xq=>?_;have xu:aH imm' cs iq cq:=xt.trans xq;refine ih C hcs (s:={s with heap:=hq,toks:=tz}) Rq'.noLs (i'.ext xu) ?_ fun h2 t2 m2 i2 c2 R2 x2=>k h2 t2 m2 i2 c2 R2 ⟨fun q hq hne=>x2.i q (xu.i q (x' q hq hne)) hne,fun k a h=>x2.r k a (xu.r k a h)⟩;apply ah hD.cell_inv;intro a e0 ha;subst e0;exact .cell (xu.r _ _ ha)
theorem Cw(h:uH sc=true):sc.kind=.function∧(∀ x∈sc.names,x.2≠.free)∧(∀ x∈sc.names,x.2≠.cell)∧(∀ x∈sc.names,x.2=.local→sc.names.lookup x.1=some .local)∧sc.names.lookup ("__debug__" : Str)=none:=by
 have a:=aB h;have b:=aB a.2;have h1:=a.1;have h2:=b.1;have h3:=b.2;have al:∀ x∈sc.names,tL sc.names x=true:=fun x hx=>aq h2 x hx;refine⟨?_,fun x hx e=>?_,fun x hx e=>?_,fun x hx e=>?_,by rw[jm] at h3;exact Option.isNone_iff_eq_none.mp h3⟩
 ·revert h1
  cases sc.kind<;>intro h1<;>first|rfl|injection h1
 ·have:=al x hx;unfold tL at this;rw[e] at this;injection this
 ·have:=al x hx;unfold tL at this;rw[e] at this;injection this
 ·have:=al x hx
  unfold tL at this;rw[e] at this;exact xL this
theorem PN(ht:ie t=true)(hs:uH sc=true)(h:Cz Γ n sc.names t e d (.lst kk 0) σ σ')
  {s:Shared} {Q E:Value→Shared→Prop} (C:bp Γ c A n) (Rp:aj Γ c.h₀ c.L s.heap m ls σ imm cs) (hi:ge imm (ae cs) Iter (.lst kk 0)) (hD:VR Γ imm (ae cs) D (.cell d))
  (k:∀ h' tk imm' cs',aj Γ c.h₀ c.L h' m ls σ' imm' cs'→nM Iter imm cs imm' cs'→Q D {s with heap:=h',toks:=tk}) :
  wpAny (model Γ.prog Γ.w) A (newFunctionEnv sc c.env.globals [] [] c.env.qual none .none (some c.env)) (fun cenv s₄=>
    codeAny (model Γ.prog Γ.w) A (.compStart (.ListComp e [⟨t,iter,[],0⟩] sc pos) 0 (.ref Iter) D {cenv with scope:=sc}) (fun r s'=>∃ m,s'.heap.Ns cenv.locals m∧∀ h',Heap.SameBut cenv.locals s'.heap h' →
     match r with|.ok _=>Q D {s' with heap:=h'}|.error x=>wpAny (model Γ.prog Γ.w) A (passOn "comprehension.variables-let-go" x {cenv with scope:=sc}) Q E {s' with heap:=h'}) s₄) E s:=by
 apply oM (Cw hs);intro c1 c2 c3 c4 c5;refine wpAny_newFunctionEnv c3 (fun x hx=>by cases hx) (fun h₁ hns hsb=>?_) c1;apply aN (JW C Rp);intro B st;generalize hg:hideAll s.heap ((imm++aL cs).map (·.1))=g at B st;have hgs:g.objs.size=s.heap.objs.size:=by rw[←hg];exact hideAll_size _ _
 have of_g:∀ b o,g.get? b=some o→s.heap.get? b=some o:=fun b o e=>of_hideAll _ (by rw[hg];exact e);have none_g:∀ b,b∈(imm++aL cs).map (·.1)→g.get? b=none:=fun b hb=>by rw[←hg];exact hideAll_none _ hb
 have old:∀ b o,s.heap.get? b=some o→h₁.get? b=some o:=fun b o e=>hsb.extBut b o (Nat.ne_of_lt (Heap.lt_size e)) (Heap.get?_push_of_some _ e);apply dD Rp.F.ns;intro oL es ep hL hLd hLk hLf;have nL:c.L ∉ (imm++aL cs).map (·.1):=fun q=>by
  apply ah (dm q);intro p hp e;exact(Rp.N p hp).2.1 e
 have hLg:g.get? c.L=some oL:=by rw[←hg];exact hideAll_get _ hL nL
 have henv:∃ fl,(⟨sc,s.heap.objs.size,c.env.globals,[],c.env.qual,none,c.env.code,c.env.frame,c.env.builtins⟩ : Env)=Cx.env ⟨c.base,g,c.fr,s.heap.objs.size,c.a,c.cn,sc,c.cd,some fl⟩:=by
  cases hu:c.up with
  |none=>exact⟨c.L,by unfold Cx.env;rw[hu];rfl⟩
  |some fl=>exact⟨fl,by unfold Cx.env;rw[hu]⟩
 apply bx henv;clear henv;intro fl henv
 suffices hh:∀ (tk:Nat) (ev:Env),ev=Cx.env ⟨c.base,g,c.fr,s.heap.objs.size,c.a,c.cn,sc,c.cd,some fl⟩→codeAny (model Γ.prog Γ.w) A (.compStart (.ListComp e [⟨t,iter,[],0⟩] sc pos) 0 (.ref Iter) D ev) (fun r s'=>∃ m,s'.heap.Ns s.heap.objs.size m∧∀ h',Heap.SameBut s.heap.objs.size s'.heap h' →
     match r with|.ok _=>Q D {s' with heap:=h'}|.error x=>wpAny (model Γ.prog Γ.w) A (passOn "comprehension.variables-let-go" x ev) Q E {s' with heap:=h'}) {s with heap:=h₁,toks:=tk} from hh _ _ henv
 rintro tk0 ev rfl;generalize hc':(⟨c.base,g,c.fr,s.heap.objs.size,c.a,c.cn,sc,c.cd,some fl⟩ : Cx)=c';have C':bp Γ c' A n:=by
  subst hc';exact⟨⟨A,B⟩,C.X.keeps st,C.T.keeps st,c1,C.fr,C.hd,C.dp,C.un⟩
 have e1:c'.cs=sc:=by subst hc';rfl
 have e2:c'.h₀=g:=by subst hc';rfl
 have e3:c'.L=s.heap.objs.size:=by subst hc';rfl
 have R':aj Γ c'.h₀ c'.L h₁ (fun U=>none) [] σ imm cs:=by
  rw[e2,e3];refine⟨⟨hns,fun b o e=>old b o (of_g b o e),Nat.le_of_eq hgs⟩,fun p hp=>⟨old _ _ (Rp.N p hp).1,Nat.ne_of_lt (Heap.lt_size (Rp.N p hp).1),none_g _ (List.mem_map_of_mem hp)⟩,Rp.nd,Rp.C,fun x v hx=>by injection hx⟩
 have loop:∀ tk,codeAny (model Γ.prog Γ.w) A (.compLoop (.ListComp e [⟨t,iter,[],0⟩] sc pos) 0 (.ref Iter) D c'.env) (fun r s'=>∃ m,s'.heap.Ns s.heap.objs.size m∧∀ h',Heap.SameBut s.heap.objs.size s'.heap h' →
     match r with|.ok _=>Q D {s' with heap:=h'}|.error x=>wpAny (model Γ.prog Γ.w) A (passOn "comprehension.variables-let-go" x c'.env) Q E {s' with heap:=h'}) {s with heap:=h₁,toks:=tk}:=fun tk=>by
  refine OP ht c5 h C' e1 (s:={s with heap:=h₁,toks:=tk}) R' hi hD fun h2 t2 m2 i2 cs2 R2 x2=>⟨m2,e3▸R2.F.ns,fun h3 hsb3=>?_⟩;rw[e2,e3] at R2;have keep3:∀ b o,b≠s.heap.objs.size→h2.get? b=some o→h3.get? b=some o:=fun b o hb e=>hsb3.extBut b o hb e;have lt0:∀ b o,g.get? b=some o→b≠s.heap.objs.size:=fun b o e=>Nat.ne_of_lt (Heap.lt_size (of_g b o e));have F3:Fr c.h₀ c.L h3 m:=⟨⟨oL,es,ep,keep3 _ _ (lt0 _ _ hLg) (R2.F.keep _ _ hLg),hLd,hLk,hLf⟩,fun b o e=>keep3 _ _ (lt0 _ _ (st b o e)) (R2.F.keep _ _ (st b o e)),Rp.F.above⟩;have N3:News c.h₀ c.L h3 (i2++aL cs2):=fun p hp=>⟨keep3 _ _ (R2.N p hp).2.1 (R2.N p hp).1,(fun q=>by
   have:=(R2.N p hp).2.2;rw[q,hLg] at this;cases this),by
   cases q:c.h₀.get? p.1 with
   |none=>rfl
   |some o=>have:=(R2.N p hp).2.2;rw[st _ _ q] at this;cases this⟩
  refine k h3 t2 i2 cs2 ⟨F3,N3,R2.nd,R2.C,fun x v hx=>?_⟩ x2;apply ah (Rp.l x v hx);intro val q1 q2;refine⟨val,q1,q2.all (n:=0) (q:=false) (fun p hp hq=>x2.i p hp fun e=>?_) (fun k a U=>x2.r k a) nofun⟩;apply ah hi.obj;intro o o1 o2;have g1:=(Rp.N p (bq _ hp)).1;have g2:=(Rp.N _ (bq _ o1)).1;rw[e,g2] at g1;rw[←osI g1,o2.1] at hq;injection hq
 refine codeAny_compStart_list (loop tk0) ?_;cases hi with
 |lst a b d1 d2=>exact wpAny_pyIter_listiter (s:={s with heap:=h₁,toks:=tk0}) ⟨_,(R'.N _ (bq _ a)).1,d1,d2⟩ (loop tk0)
theorem Dt(g1:uH sc=true)(g2:mc it=true)(g3:ie t=true)(hy:b9 Γ n (fun c=>eval it c.env) ls σ (.cell kk) σ1)(h3:eq σ1 kk=some xs)
  (h4:Cz Γ n sc.names t e (aA σ1) (.lst kk 0) (σ1++[.list []]) σ2):b9 Γ n (fun c=>eval (.ListComp e [⟨t,it,[],0⟩] sc pos) c.env) ls σ (.cell (aA σ1)) σ2:=by
 apply oM (Cw g1);intro c1 c2 c3 c4 c5;intro c A s m imm cs Q E C l Rp k;apply nq c.parts;intro p1 p2 p3 p4;refine wpAny_ListComp c2 c1 c4 (hy C l Rp fun hx tx ix cx va Rx xx qx=>?_) ?_
 rotate_left
 ·intro x
  unfold foldedSetIterable;induction it using PySem.Expr.casesOn<;>first|rfl|(exact(A2 g2).elim)|(exact Bool.noConfusion (show false=true from g2))
 apply ah qx.cell_inv;intro a e0 ha;subst e0;apply dD (Rx.C.cell ha (g6 h3));intro dd pre post e0 hl e2 cr;subst e0;apply eZ cr.list_inv;intro a2 vs nn e0 hvs hsz;subst e0;replace e2:a2=a:=e2;subst e2;refine wpAny_pyIter_list (items:=vs.toArray) ⟨_,(Rx.N _ (Rx.has (d:=.list a2 vs nn) (.head _))).1,rfl,_,rfl⟩ ?_;have R2:=Rx.newI {cls:=.type "list_iterator",data:=.fields #[.ref a2,.int 0 0]} rfl;generalize hcs:pre++CC.list a2 vs nn::post=cx at *
 refine wpAny_newList ?_ (by decide);have R3:=R2.newL (vs:=[]) (xs:=[]) .nil (by decide);have hv3:=zy (h:=hx.push {cls:=.type "list_iterator",data:=.fields #[.ref a2,.int 0 0]}) (vs:=[]) R2.C;have i3:ge ((hx.objs.size,({cls:=.type "list_iterator",data:=.fields #[.ref a2,.int 0 0]}:Obj))::ix) (ae (cx++[CC.list (hx.push {cls:=.type "list_iterator",data:=.fields #[.ref a2,.int 0 0]}).objs.size [] 0])) hx.objs.size (.lst kk 0) :=
  .lst (.head _) ((aH.snoc ix cx _).r _ _ ha) rfl rfl
 refine PN g3 g1 h4 C R3 i3 hv3 fun h' tk imm' cs' R' x'=>?_;have lt:∀ q∈ix,q.1≠hx.objs.size:=fun q hq=>Nat.ne_of_lt (Heap.lt_size (Rx.N q (bq _ hq)).1);have x3:aH ix cx imm' cs':=⟨fun q hq=>x'.i q (.tail _ hq) (lt q hq),fun k a h=>x'.r k a ((aH.snoc ix cx _).r k a h)⟩;refine k h' tk imm' cs' _ R' (xx.trans x3) ?_;apply ah hv3.cell_inv;intro a e0 ha';rw[e0];exact .cell (x'.r _ _ ha')
theorem RC(I:bW Γ n R)(S:gM Γ n R)(h:C1 R ls σ e t it sc=some (v,σ')):b9 Γ n (fun c=>eval (.ListComp e [⟨t,it,[],0⟩] sc pos) c.env) ls σ v σ':=by
 apply bJ h;clear h;intro h0 h;apply b5 h;clear h;intro u σ1 h1 h;apply aI h;clear h;intro kk h2 h;apply aI h;clear h;intro xs h3 h;apply aI h;clear h;intro σ2 h4 h;(apply j2 h;clear h;rintro rfl rfl);simp only [Bool.and_eq_true] at h0;(obtain e0:=kl h2;subst e0);exact Dt h0.1 h0.2.1 h0.2.2 (I.ev h1) h3 (O1 I S _ h4)
end
end
section
section
variable {Γ:ar}{β:Bd}{Y:Pi}
section
variable {n:Nat}{R:aR}{ls:ac}{σ σ':St}{v:AV}
theorem Li(hg:∀ x v,Y.glob x=some v→ui Γ x v)(h:Ax Y ls σ x=some (v,σ')):b9 Γ n (fun c=>eval (.Name x pos) c.env) ls σ v σ':=by
 unfold Ax at h;cases q:lk x ls.v with
 |some u=>rw[q] at h;(apply j2 h;clear h;rintro rfl rfl);exact Pu q
 |none=>
  rw[q] at h;apply bJ h;clear h;intro h1 h;apply aI h;clear h;intro v' h2 h;(apply j2 h;clear h;rintro rfl rfl);exact Qi h1 (hg _ _ h2)
theorem P8(he:Γ.ε.Ok)(hb:aM Y.β Γ.ε)(I:bW Γ n R)(h:xM Y R ls σ op e=some (v,σ')):b9 Γ n (fun c=>eval (.UnaryOp op e pos) c.env) ls σ v σ':=by
 cases op with
 |USub=>
  induction e using PySem.Expr.casesOn with
  |Constant c q p=>
   cases c with
   |int i=>(apply j2 h;clear h;rintro rfl rfl);exact RR
   |_=>injection h
  |ListComp e2 gs sc pos2=>
   unfold xM at h;rw[show vE (.ListComp e2 gs sc pos2)=i7 e2 sc gs from rfl] at h;rcases kS e2 sc gs with q|⟨_,_,_,q⟩<;>rw[q] at h<;>injection h
  |_=>injection h
 |Not=>exact TO he hb I h
 |_=>injection h
theorem Ts(hw:Γ.ε.P=Γ.w.params)(he:Γ.ε.Ok)(hb:aM Y.β Γ.ε)(hy:∀ C c,Y.ci C=some c→ec Γ C c)(hbm:sL Γ Y)(hg:∀ x v,Y.glob x=some v→ui Γ x v)
  (I:bW Γ n R) (S:gM Γ n R) (J:nt Γ n R) (h:ye Y R ls σ e=some (v,σ')) :
  b9 Γ n (fun c=>eval e c.env) ls σ v σ':=by
 induction e using PySem.Expr.casesOn with
 |Constant c q pos=>
  apply aI (show IX σ c=some (v,σ') from h);intro v' h1 h2;(apply j2 h2;clear h2;rintro rfl rfl);exact Ux h1
 |Name x pos=>exact Li hg h
 |Attribute o x pos=>exact Ro hy I h
 |BoolOp op vs pos=>exact I.bl h pos
 |UnaryOp op e pos=>exact P8 he hb I h
 |IfExp t b o pos=>exact UO I h
 |BinOp l op r pos=>exact RM he hb TX MU MP I h
 |Compare l ops rs pos=>exact TJ I h
 |Tuple es q pos=>exact SL I h
 |List es pos=>exact Q6 I h
 |Subscript o s pos=>
  induction s using PySem.Expr.casesOn with
  |Slice lo hi st p2=>exact Df he I h
  |ListComp e2 gs sc pos2=>
   replace h:yj Y R ls σ o (.ListComp e2 gs sc pos2)=some (v,σ'):=h;unfold yj at h;rw[show vE (.ListComp e2 gs sc pos2)=i7 e2 sc gs from rfl] at h;have D:b9 Γ n (fun c=>eval (.Subscript o (.ListComp e2 gs sc pos2) pos) c.env) ls σ v σ':=by
    rcases kS e2 sc gs with q|⟨_,_,_,q⟩<;>rw[q] at h<;>exact Fs (Y:=Y) he hw I h
   exact @D
  |_=>exact Fs he hw I h
 |Call f as ks pos=>
  induction f using PySem.Expr.casesOn with
  |Attribute o x apos=>exact Fc hy hbm I J h
  |Name x q=>exact Cf I J h
  |ListComp e2 gs sc pos2=>
   replace h:yD Y R ls σ (.ListComp e2 gs sc pos2) as ks pos=some (v,σ'):=h;unfold yD at h;rw[show vE (.ListComp e2 gs sc pos2)=i7 e2 sc gs from rfl] at h;rcases kS e2 sc gs with q|⟨_,_,_,q⟩<;>rw[q] at h<;>injection h
  |_=>injection h
 |Dict ks vs pos=>exact Sl hw h
 |ListComp e2 gs sc pos=>
  unfold ye at h;rw[show vE (.ListComp e2 gs sc pos)=i7 e2 sc gs from rfl] at h;rcases kS e2 sc gs with q|⟨t,it,hg,q⟩<;>rw[q] at h
  ·injection h
  ·subst hg
   have D:b9 Γ n (fun c=>eval (.ListComp e2 [⟨t,it,[],0⟩] sc pos) c.env) ls σ v σ':=RC I S h;exact @D
 |_=>injection h
end
end
end
section
structure g8 (Γ:ar) (b:Nat) (Y:Pi):Prop where
 hw:Γ.ε.P=Γ.w.params
 he:Γ.ε.Ok
 hb:aM Y.β Γ.ε
 hy:∀ C c,Y.ci C=some c→ec Γ C c
 hg:∀ x v,Y.glob x=some v→ui Γ x v
 hf:∀ f fi,Y.fn f=some fi→fnIn Γ.K f=true∧AK Γ f fi
 hs:∀ σ f vs p,Y.spec σ f vs=some p→fnIn Γ.K f=true∧cF Γ (b+25) σ f vs [] p.1 p.2
 nm:q6 Y
structure sV (Γ:ar) (b d:Nat) (R:aR):Prop where
 E:bW Γ (10*d+b+30) R
 C:nt Γ (10*d+b+30) R
 S:gM Γ (10*d+b+30) R
 F:sk Γ (10*d+b+30) R.fo
 cf:∀ {σ f vs kw r σ'},R.cf σ f vs kw=some (r,σ')→fnIn Γ.K f=true∧cF Γ (10*d+b+25) σ f vs kw r σ'
section
variable {Γ:ar}{Y:Pi}{b:Nat}
theorem Qk(d:Nat):sV Γ b d .bot where
 E:=⟨nofun,nofun,nofun,nofun,nofun,nofun,nofun,nofun⟩
 C:=⟨nofun,nofun⟩
 S:=⟨nofun,nofun,nofun,nofun,nofun,nofun⟩
 F:=nofun
 cf:=nofun
theorem jp.le(h:n'≤n)(H:jp Γ n' σ fv vs kw r σ'):jp Γ n σ fv vs kw r σ':=by
 intro c A s m ls imm cs fval vals kwv Q E C;exact H (C.le h)
theorem Nl(P:g8 Γ b Y)(H:∀ {ls σ ss f ls' σ'},(C ()).exs ls σ ss=some (f,ls',σ')→bt Γ (10*d+b+20) (fun c=>execs ss c.env) ls σ f ls' σ')
  (h:v5 Y C σ f vs kw=some (r,σ')):fnIn Γ.K f=true∧cF Γ (10*d+b+25) σ f vs kw r σ':=by
 have go:yR Y C σ f vs kw=some (r,σ')→fnIn Γ.K f=true∧cF Γ (10*d+b+25) σ f vs kw r σ':=fun h=>by
  apply aI h;clear h;intro fi h1 h;apply aI h;clear h;intro ls h2 h;apply v7 h;clear h;intro fl ls' σ1 h3 h;apply aN (P.hf _ _ h1);intro g1 g2;refine⟨g1,?_⟩;induction fl using Fl.casesOn with
  |ret v=>(apply j2 h;clear h;rintro rfl rfl);exact sG g2 h2 (by lia) (.inl rfl) (H h3)
  |next=>(apply j2 h;clear h;rintro rfl rfl);exact sG g2 h2 (by lia) (.inr ⟨rfl,rfl⟩) (H h3)
 unfold v5 at h;cases e:Y.spec σ f vs with
 |none=>rw[e] at h;exact go h
 |some p=>
  rw[e] at h;rcases px h with ⟨q,h⟩|⟨_,h⟩
  ·(obtain e:=u8 q;subst e)
   (injection h with e;subst e);apply aN (P.hs _ _ _ _ e);intro h1 h2;exact⟨h1,cF.le (by lia) h2⟩
  ·exact go h
theorem RY(P:g8 Γ b Y)(I:sV Γ b d R)(H:∀ {ls σ ss f ls' σ'},(C ()).exs ls σ ss=some (f,ls',σ')→bt Γ (10*d+b+20) (fun c=>execs ss c.env) ls σ f ls' σ') :
  sV Γ b d (.step Y R C):=by
 have hbm:sL Γ Y:=HL P.hw P.he P.hb P.nm;have cf5:∀ {σ f vs kw r σ'},v5 Y C σ f vs kw=some (r,σ')→fnIn Γ.K f=true∧cF Γ (10*d+b+25) σ f vs kw r σ':=fun h=>Nl P H h;refine⟨⟨?_,?_,?_,?_,?_,?_,?_,?_⟩,⟨?_,?_⟩,⟨?_,?_,?_,?_,?_,?_⟩,?_,cf5⟩
 ·exact fun h=>Ts P.hw P.he P.hb P.hy hbm P.hg I.E I.S I.C h
 ·exact fun h=>NW (Y:=Y) I.E h
 ·exact fun h=>N7 (Y:=Y) I.E h
 ·exact fun h=>JH (Y:=Y) I.E h
 ·exact fun h pos=>MI P.he P.hb I.E h pos
 ·exact fun h pos=>UB P.hw P.he P.hb I.E h pos
 ·exact fun h=>Um P.he P.hb I.E h
 ·exact fun h=>MD (Y:=Y) I.E h
 ·exact fun h=>⟨(cf5 h).1,cF.le (by lia) (cf5 h).2⟩
 ·intro σ fv vs kw r σ' h
  apply d5 (AL (n:=10*d+b+25) P.hy I.cf (fun h=>xP P.hw P.he P.hb P.hy h) h);intro a b c;exact⟨a,jp.le (by lia) b,fun f self e=>⟨(c f self e).1,cF.le (by lia) (c f self e).2⟩⟩
 ·exact fun h=>QD (Y:=Y) I.S h
 ·exact fun h=>S2 P.he P.hb P.hy I.E I.S (Fm I.F) h
 ·exact fun h=>Lx P.hy Oa I.E I.S h
 ·exact fun h=>NU (Y:=Y) I.S h
 ·exact fun h=>PR (Y:=Y) I.S h
 ·exact fun h=>UL (Y:=Y) I.E I.S h
 ·exact Uf (Y:=Y) I.S I.F
theorem gu(P:g8 Γ b Y):∀ n d:Nat,sV Γ b d (mk Y n d)
 |0,d=>Qk d
 |n+1,d=>by
  show sV Γ b d (.step Y (mk Y n d) (fun U=>Nat.rec .bot (fun d' U=>mk Y n d') d));refine RY P (gu P n d) ?_;cases d with
  |zero=>exact fun h=>by injection h
  |succ d=>
   intro ls σ ss f ls' σ' h;rw[show 10*(d+1)+b+20=10*d+b+30 by lia];exact(gu P n d).S.exs h
end
end
end
section
set_option backward.match.sparseCases false
section
section
theorem LW:fastLookup "function" "__get__"=some (some (.builtin "function.__get__")):=by kernel_rfl
theorem TC:fastLookup "function" "__set__"=some none:=by kernel_rfl
theorem L6:fastLookup "function" "__delete__"=some none:=by kernel_rfl
theorem Er{K:Frag}{f:Addr}(h:isFn K (.ref f)=true):specialIn K (.ref f) "__get__"=some (some (.builtin "function.__get__"))∧takesIn K (.ref f)=some false:=by
 have e:=beq_iff_eq.mp h;have e1:∀ x,specialIn K (.ref f) x=fastLookup "function" x:=fun x=>by unfold specialIn;rw[e];rfl
 refine⟨by rw[e1,LW],?_⟩;unfold takesIn;rw[e1,TC];show Option.map _ (specialIn K (.ref f) "__delete__")=_;rw[e1,L6];rfl
noncomputable def eD{α:Type}(a:Addr):List (Addr×α)→Option α
 |[]=>none
 |p::r=>match Nat.beq p.1 a with|true=>some p.2|false=>eD a r
set_option smartUnfolding false in
theorem zg{α:Type}{a:Addr}{v:α}:∀ {l:List (Addr×α)},eD a l=some v→(a,v)∈l:=by
 intro L0;induction L0 with
 |nil=>
  intro h;injection h
 |cons p r ih=>
  intro h;replace h:Bool.rec (motive:=fun U=>Option α) (eD a r) (some p.2) (Nat.beq p.1 a)=some v:=h;cases q:Nat.beq p.1 a with
  |true=>rw[q] at h;rw[←osI h,←bX q];exact .head _
  |false=>rw[q] at h;exact .tail _ (ih h)
noncomputable def Ap:Value→Bool
 |.ref _=>false
 |_=>true
noncomputable def uO:List Value→List Addr→Bool
 |.ref a::r,b::s=>Nat.beq a b&&uO r s
 |l,[]=>l.all Ap
 |_,_=>false
theorem O5{l:List Value}(h:l.all Ap=true)(D:Addr):l.contains (.ref D)=false:=by
 induction l with
 |nil=>rfl
 |cons v r ih=>
  rw[List.all_cons,Bool.and_eq_true] at h;rw[List.contains_cons,ih h.2,Bool.or_false];cases v<;>first|rfl|cases h.1
theorem Du:∀ {l:List Value} {m:List Addr},uO l m=true→∀ D,l.contains (.ref D)=m.any (Nat.beq D)
 |l,[],h,D=>by
  have h:l.all Ap=true:=by
   induction l using oL with
   |nil=>rfl
   |cons v r=>cases v<;>exact h
  rw[O5 h];rfl
 |[],b::s,h,D=>by injection h
 |v::r,b::s,h,D=>by
  cases v with
  |ref a=>
   replace h:(Nat.beq a b&&uO r s)=true:=h;rw[Bool.and_eq_true] at h;have:=bX h.1;subst this;rw[List.contains_cons,List.any_cons,Du h.2 D]
   congr 1
   cases q:Nat.beq D a with
   |true=>rw[bX q];simp
   |false=>
    have:=Nat.ne_of_beq_eq_false q;simp [this]
  |_=>injection h
noncomputable def zc(K:Frag)(C:Addr)(p:Str×Addr):Bool:=findIn K (.ref C) p.1 == some (some (.ref p.2))&&isFn K (.ref p.2)&&fnIn K p.2&&!copiedNames.contains p.1
noncomputable def Im(K:Frag)(C:Addr)(x:Str):Bool:=findIn K (.ref C) x == some none
noncomputable def zl(K:Frag)(C:Addr)(c:CI):Bool :=
 plainGet K C ""&&hasDictIn K C&&findIn K (.ref C) "__setattr__" == some (some (.builtin "object.__setattr__"))&&plainOver K C&&findIn K (.ref C) "__bool__" == some none&&findIn K (.ref C) "__len__" == some none &&
 (match c.init with|some f=>findIn K (.ref C) "__init__" == some (some (.ref f))&&typeIn K (.ref f) == some (.type "function")&&makesIn K C|none=>true) &&
 (match clsIn K C with|some cd=>!cd.mro.isEmpty&&uO cd.mro c.mro|none=>false)&&typeIn K (.ref C) == some (.type "type")&&c.mro.any (Nat.beq C) &&
 plainGet K C "__class__"&&findIn K (.ref C) "__class__" == some (some (.builtin "object.__class__"))&&mroIn K C (.type "object") == some true
noncomputable def Dr(v:Value):Bool:=match v with|.none=>true|_=>false
noncomputable def EM(v:Value)(b:Bool):Bool:=match v with|.bool a=>a == b|_=>false
noncomputable def BJ(v:Value)(i:Int):Bool:=match v with|.int j _=>decide (j=i)|_=>false
def Bs(v:Value)(l:List Nat):Bool:=match v with|.str x _=>co x.cps.toList l|_=>false
def Fj(v:Value)(l:Option (List Nat)):Bool:=match l with|some l=>Bs v l&&Nat.ble (aA l) 1000|none=>false
def BI(v:Value)(x:AV):Bool:=match x with
 |.none=>Dr v
 |.bool b=>EM v b
 |.int l=>aF l.l&&BJ v l.c
 |.str s=>Fj v s.conc
 |_=>false
theorem SO(h:Dr v=true):v=.none:=by cases v<;>first|rfl|injection h
theorem T8(h:EM v b=true):v=.bool b:=by
 cases v with
 |bool a=>rw[beq_iff_eq.mp h]
 |_=>injection h
theorem Lo(h:BJ v i=true):∃ t,v=.int i t:=by
 cases v with
 |int j t=>exact⟨t,by rw[of_decide_eq_true h]⟩
 |_=>injection h
theorem PP(h:Bs v l=true):∃ t,v=.str (aG l) t:=by
 cases v with
 |str x t=>exact⟨t,by rw[←gJ.mp h];rfl⟩
 |_=>injection h
noncomputable def xl:List Value→List AV→Bool
 |[],[]=>true
 |v::vs,x::xs=>BI v x&&xl vs xs
 |_,_=>false
theorem Qo(h:BI v x=true):VR Γ imm ρ v x:=by
 induction x using AV.casesOn with
 |none=>rw[SO h];exact .none
 |bool b=>rw[T8 h];exact .bool _
 |int l=>
  replace h:=aB (show (aF l.l&&BJ v l.c)=true from h);apply bx (Lo h.2);intro t e0;subst e0;refine .int ?_;unfold am.val;cases e:l.l with
  |nil=>show l.c=l.c+0;lia
  |cons=>rw[e] at h;cases h.1
 |str s=>
  replace h:Fj v s.conc=true:=h;cases e:s.conc with
  |none=>rw[e] at h;injection h
  |some l=>
   rw[e] at h;replace h:=aB (show (Bs v l&&Nat.ble (aA l) 1000)=true from h);apply bx (PP h.1);intro t e0;subst e0;have h2:=df h.2;rw[b7] at h2;have hs:cG Γ.ε s:=by
    induction s using oL with
    |nil=>exact fun U h=>absurd h List.not_mem_nil
    |cons p r=>
     induction p using Pc.casesOn<;>induction r using oL<;>try (injection e;done)
     intro p hp;rw[cH hp];trivial
   exact .str (by rw[iE e]) hs (by rw[iE e];lia)
 |_=>injection h
theorem Hm:∀ {vs:List Value} {xs:List AV},xl vs xs=true→ao Γ imm ρ vs xs
 |[],[],_=>.nil
 |[],_::_,h=>by injection h
 |_::_,[],h=>by injection h
 |v::vs,x::xs,h=>by
  replace h:(BI v x&&xl vs xs)=true:=h;rw[Bool.and_eq_true] at h;exact .cons (Qo h.1) (Hm h.2)
noncomputable def wv:List Arg→List Str→Bool
 |[],[]=>true
 |a::r,x::xs=>seq a.arg x&&wv r xs
 |_,_=>false
theorem EY:∀ {l:List Arg} {m:List Str},wv l m=true→l.map (·.arg)=m
 |[],[],_=>rfl
 |[],_::_,h=>by injection h
 |_::_,[],h=>by injection h
 |a::r,x::xs,h=>by
  replace h:(seq a.arg x&&wv r xs)=true:=h;rw[Bool.and_eq_true] at h;rw[List.map_cons,hU.mp h.1,EY h.2]
noncomputable def LK:NameKind→Bool
 |.cell=>true
 |_=>false
def zZ(K:Frag)(st:Stmt)(args:List Str)(cd:Value)(qual:Str):Bool :=
 codeIn K cd qual&&(fA st).posonlyargs.isEmpty&&(fA st).vararg.isNone&&(fA st).kwonlyargs.isEmpty&&(fA st).kw_defaults.isEmpty&&(fA st).kwarg.isNone&&wv (fA st).args args &&
 (fS st).kind == .function&&!(fS st).isCoroutine&&!(fS st).isGenerator&&(fS st).names.all (fun x=>!LK x.2)&&args.all (fun x=>qE x (fS st).names)&&(lk ("__debug__" : Str) (fS st).names).isNone
def Cc(dflt:List AV)(o:Option Obj):Bool:=match o with
 |some ⟨_,_,.seq xs _,_⟩=>xl xs.toList dflt
 |_=>false
def zq(K:Frag)(dV:Value)(dflt:List AV):Bool:=match dV with
 |.none=>dflt.isEmpty
 |.ref t=>Cc dflt (K.lookup t)
 |_=>false
noncomputable def C4(K:Frag)(a:Addr)(fi:oo):Prop:=∃ (st:Stmt) (name qual:Str) (dV kV doc pm:Value) (an:Option Addr) (cd ct:Value),
 K.lookup a=some ⟨.type "function",none,.func (fnOf name qual (fA st) (fB st) (fS st) dV kV doc pm an cd ct),#[]⟩∧fi.body=fB st∧fi.sc=(fS st).names∧zZ K st fi.args cd qual=true∧zq K dV fi.dflt=true
theorem MH{Γ:ar}{dV:Value}{dflt:List AV}(h:zq Γ.K dV dflt=true):(dV=.none∧dflt=[])∨∃ t o items q,dV=.ref t∧Γ.K.lookup t=some o∧o.data=.seq (List.toArray items) q∧∀ imm ρ,ao Γ imm ρ items dflt:=by
 induction dV using Value.casesOn with
 |none=>exact .inl ⟨rfl,List.isEmpty_iff.mp h⟩
 |ref t=>
  replace h:Cc dflt (Γ.K.lookup t)=true:=h;cases e:Γ.K.lookup t with
  |none=>rw[e] at h;injection h
  |some o=>
   rw[e] at h;obtain⟨_,_,d,_⟩:=o;induction d using Data.casesOn with
   |seq xs q=>exact .inr ⟨t,_,xs.toList,q,rfl,e,rfl,fun _ _=>Hm h⟩
   |_=>injection h
 |_=>injection h
set_option tactic.hygienic true in
theorem Uo{Γ:ar}(h:C4 Γ.K a fi):fnIn Γ.K a=true∧AK Γ a fi:=by
 obtain⟨st,name,qual,dV,kV,doc,pm,an,cd,ct,ho,hb,hs,hc,hd⟩:=h;unfold zZ at hc;have a1:=aB hc;have a2:=aB a1.1;have a3:=aB a2.1;have a4:=aB a3.1;have a5:=aB a4.1;have a6:=aB a5.1;have a7:=aB a6.1;have a8:=aB a7.1;have a9:=aB a8.1;have a10:=aB a9.1;have a11:=aB a10.1;have a12:=aB a11.1;have eta:∀ a:Arguments,a.posonlyargs=[]→a.vararg=none→a.kwonlyargs=[]→a.kw_defaults=[]→a.kwarg=none→a={posonlyargs:=[],args:=a.args,vararg:=none,kwonlyargs:=[],kw_defaults:=[],kwarg:=none,defaults:=a.defaults}:=fun ⟨_,_,_,_,_,_,_⟩ h1 h2 h3 h4 h5=>by
  dsimp only at h1 h2 h3 h4 h5;rw[h1,h2,h3,h4,h5]
 have hA:=eta (fA st) (List.isEmpty_iff.mp a12.2) (Option.isNone_iff_eq_none.mp a11.2) (List.isEmpty_iff.mp a10.2) (List.isEmpty_iff.mp a9.2) (Option.isNone_iff_eq_none.mp a8.2);have ho2:=ho;rw[hA,←hb] at ho;refine⟨by unfold fnIn;rw[ho2],.mk name qual (fA st).args (fA st).defaults (fS st) dV kV doc pm cd ct (.type "function") an none #[] ho a12.1 (EY a7.2) hs.symm (by
   have c8:=a6.2;revert c8;cases (fS st).kind<;>intro c8<;>first|rfl|injection c8) (Bool.not_eq_true' _▸a5.2) (Bool.not_eq_true' _▸a4.2) ?_ ?_ ?_ ?_⟩
 ·intro x hx e
  have:=aq a3.2 x hx;rw[e] at this;injection this
 ·intro x hx
  exact xL (aq a2.2 x hx)
 ·exact Option.isNone_iff_eq_none.mp (jm _ _▸a1.2)
 ·exact MH hd
theorem S1:(fun P:Params=>nA.all fun p=>zl (cE P) p.1 p.2)=fun U=>true:=by kernel_rfl
theorem Qy:(fun P:Params=>nA.all fun p=>p.2.meths.all (zc (cE P) p.1))=fun U=>true:=by kernel_rfl
theorem Jw:(fun P:Params=>nA.all fun p=>p.2.flds.all (Im (cE P) p.1))=fun U=>true:=by kernel_rfl
end
end
section
def KB:List Stmt:=[tS 0,mS 4 0,mS 4 1,mS 5 0,mS 6 0,mS 8 0,mS 10 0,mS 11 0,mS 13 0,mS 20 0,mS 21 1,mS 21 2,mS 21 3,mS 21 4,mS 21 5,mS 21 6,mS 21 7,mS 21 8,mS 21 9,mS 21 10,mS 21 11,mS 21 12,mS 21 13,mS 21 14,mS 21 15,mS 21 16,mS 21 17,mS 21 18,mS 21 19,mS 21 20,mS 21 21,mS 21 22,mS 21 23,mS 21 24,mS 21 25,mS 21 26,mS 21 27,mS 21 28,mS 21 29,mS 21 30,mS 21 31,mS 21 32,mS 21 33,mS 21 34,mS 21 35,mS 21 36,mS 21 37,mS 21 38,mS 21 39,mS 21 40,mS 21 41,mS 21 42,mS 21 43,mS 21 44,mS 21 45,mS 21 46,mS 21 47,mS 21 48,mS 21 49,mS 21 50,mS 21 51,mS 21 52,mS 21 53,mS 21 54,mS 21 56,mS 21 57,mS 21 58,mS 21 59,mS 21 60,mS 22 0,mS 22 1,mS 22 2,tS 24,tS 25,tS 26,tS 27,tS 28,tS 29,tS 30,tS 31,tS 32,tS 33]
def sA:List ((Addr×oo)×Stmt):=gL.zip KB
structure CO where
 name:Str
 qual:Str
 dV:Value
 kV:Value
 doc:Value
 pm:Value
 an:Option Addr
 cd:Value
 ct:Value
def uL(o:Option Obj):CO:=match o with
 |some ⟨_,_,.func f,_⟩=>⟨f.name,f.qualname,f.defaults,f.kwdefaults,f.doc,f.pyModule,f.annotations,f.code,f.closureTuple⟩
 |_=>⟨n0,n0,.none,.none,.none,.none,none,.none,.none⟩
noncomputable def Qw(st:Stmt)(d:CO):Option Obj:=some ⟨.type "function",none,.func (fnOf d.name d.qual (fA st) (fB st) (fS st) d.dV d.kV d.doc d.pm d.an d.cd d.ct),#[]⟩
theorem MK:gL=sA.map Prod.fst:=by kernel_rfl
theorem Qt(P:Params):∀ q∈sA,(cE P).lookup q.1.1=Qw q.2 (uL ((cE P).lookup q.1.1)):=List.map_inj_left.mp (by kernel_rfl)
theorem S3:∀ q∈sA,q.1.2.body=fB q.2:=List.map_inj_left.mp (by kernel_rfl)
theorem Sq:∀ q∈sA,q.1.2.sc=(fS q.2).names:=List.map_inj_left.mp (by kernel_rfl)
theorem Sy(P:Params):(sA.all fun q=>zZ (cE P) q.2 q.1.2.args (uL ((cE P).lookup q.1.1)).cd (uL ((cE P).lookup q.1.1)).qual&&zq (cE P) (uL ((cE P).lookup q.1.1)).dV q.1.2.dflt)=true:=by kernel_rfl
theorem Qj(P:Params)(p:Addr×oo)(hp:p∈gL):C4 (cE P) p.1 p.2:=by
 rw[MK] at hp;apply ah (dm hp);intro q hq e0;subst e0;have h:=aB (aq (Sy P) q hq);exact⟨q.2,_,_,_,_,_,_,_,_,_,Qt P q hq,S3 q hq,Sq q hq,h.1,h.2⟩
end
section
section
def ab(w:World)(mg mb:Str→Option Value)(ε:Ev):ar:=⟨iK,w,cE w.params,vw,looseW vw loose,mg,mb,ε⟩
noncomputable def rG:Nat→Str
 |0=>⟨#[97,112,112,101,110,100]⟩
 |1=>⟨#[112,111,112]⟩
 |2=>⟨#[106,111,105,110]⟩
 |3=>⟨#[115,116,97,114,116,115,119,105,116,104]⟩
 |_=>⟨#[99,111,112,121]⟩
noncomputable abbrev pr:=St→Addr→List AV→Option (AV×St)
def l9(β:Bd)(sp:pr):Pi:={β,fn:=fun a=>eD a gL,ci:=fun a=>eD a nA,glob:=fun x=>lk x GM,spec:=sp,nm:=rG}
def wz(β:Bd):Pi:=l9 β fun U U U=>none
theorem Pv:rG 0=Str.ofString "append"∧rG 1=Str.ofString "pop"∧rG 2=Str.ofString "join"∧rG 3=Str.ofString "startswith"∧rG 4=Str.ofString "copy" :=
 ⟨by kernel_rfl,by kernel_rfl,by kernel_rfl,by kernel_rfl,by kernel_rfl⟩
noncomputable def Ho(K:Frag)(p:Str×AV):Bool:=match p.2 with
 |.cls a=>nsIn K mainGlobals p.1 == some (some (.ref a))
 |.fn a=>nsIn K mainGlobals p.1 == some (some (.ref a))
 |.bi k=>nsIn K mainGlobals p.1 == some none&&bootBuiltins p.1 == some k.val&&p.1 != "__name__"
 |_=>false
theorem QC:(fun P:Params=>GM.all (Ho (cE P)))=fun U=>true:=by kernel_rfl
theorem TT{Γ:ar}(h:Ho Γ.K p=true):ui Γ p.1 p.2:=by
 obtain⟨x,v⟩:=p;induction v using AV.casesOn<;>try (injection h;done)
 ·exact⟨_,fun U U=>.cls,.inl (beq_iff_eq.mp h)⟩
 ·exact⟨_,fun U U=>.fn,.inl (beq_iff_eq.mp h)⟩
 ·replace h:=aB h
  have g:=aB h.1;exact⟨_,fun U U=>.bi,.inr ⟨beq_iff_eq.mp g.1,beq_iff_eq.mp g.2,bne_iff_ne.mp h.2⟩⟩
set_option tactic.hygienic true in
theorem UN{Γ:ar}(h:zl Γ.K C c=true)(hm:c.meths.all (zc Γ.K C)=true)(hf:c.flds.all (Im Γ.K C)=true)
  (hc:∀ x v,lk x c.consts=some v→∃ a,findIn Γ.K (.ref C) x=some (some a)∧specialIn Γ.K a "__get__"=some none∧handedIn a=true∧copiedNames.contains x=false∧∀ imm ρ,VR Γ imm ρ a v)
  (hk:specialIn Γ.K (.builtin "object.__class__") "__get__"=some (some (.builtin "getset_descriptor.__get__"))∧takesIn Γ.K (.builtin "object.__class__")=some true):ec Γ C c:=by
 unfold zl at h;simp only [Bool.and_eq_true] at h;obtain⟨⟨⟨⟨⟨⟨⟨⟨⟨⟨⟨⟨h1,h2⟩,h3⟩,h4⟩,h5⟩,h6⟩,h7⟩,h8⟩,h9⟩,h10⟩,h11⟩,h12⟩,h13⟩:=h;refine⟨⟨h1,h2,beq_iff_eq.mp h3,h4,beq_iff_eq.mp h5,beq_iff_eq.mp h6⟩,?_,hc,?_,?_,⟨h11,beq_iff_eq.mp h12,hk.1,hk.2,beq_iff_eq.mp h13⟩,?_⟩
 ·intro x f hx
  have:=aq hm (x,f) (jv hx);unfold zc at this;simp only [Bool.and_eq_true] at this;obtain⟨⟨⟨a1,a2⟩,a3⟩,a4⟩:=this;exact⟨beq_iff_eq.mp a1,a2,a3,(Er a2).1,(Er a2).2,by simpa using a4⟩
 ·intro x hx
  replace hx:x∈c.flds:=AH hx;have:=beq_iff_eq.mp (aq hf x hx);exact⟨this,by unfold takerIn;rw[this];rfl⟩
 ·refine⟨?_,beq_iff_eq.mp h9,h10⟩
  split at h8
  ·rename_i cd e
   rw[Bool.and_eq_true] at h8;exact⟨cd,e,by simpa using h8.1,fun D=>Du h8.2 D⟩
  ·injection h8
 ·intro f hf
  rw[hf] at h7;simp only [Bool.and_eq_true] at h7;exact⟨beq_iff_eq.mp h7.1.1,beq_iff_eq.mp h7.1.2,h7.2⟩
theorem Nm(P:Params):specialIn (cE P) (.builtin "object.__class__") "__get__"=some (some (.builtin "getset_descriptor.__get__"))∧takesIn (cE P) (.builtin "object.__class__")=some true:=⟨by kernel_rfl,by kernel_rfl⟩
noncomputable def zY(e:DictEntry):List Nat×Tok×List Nat×Tok:=match e with
 |⟨_,.str k t,.str v u⟩=>(k.cps.toList,t,v.cps.toList,u)
 |_=>([],0,[],0)
noncomputable def xW(P:Params)(q:List Nat×Tok×List Nat×Tok):DictEntry:=⟨PyData.keyHash P (aG q.1),.str (aG q.1) q.2.1,.str (aG q.2.2.1) q.2.2.2⟩
noncomputable def GZ(q:List Nat×Tok×List Nat×Tok):List Nat×AV:=(q.1,.str (SS.k q.2.2.1))
noncomputable def Ix(q:List Nat×Tok×List Nat×Tok):Bool:=Nat.ble q.2.2.1.length 16777216
theorem Km:∀ l:List (List Nat×Tok×List Nat×Tok),l.all Ix=true→KeysLit P (l.map (xW P))∧DR Γ imm ρ (l.map (xW P)) (l.map GZ):=by
 intro l;induction l with
 |nil=>exact fun U=>⟨trivial,.nil⟩
 |cons q r ih=>
  intro h;rw[List.all_cons,Bool.and_eq_true] at h;apply aN (ih h.2);intro r1 r2;exact⟨⟨⟨_,_,rfl,rfl⟩,r1⟩,.cons (.str (by rw[db]) (gG _) (by rw[db];exact df h.1)) r2⟩
noncomputable def vM(P:Params)(es:List DictEntry)(ds:List (List Nat×AV)):Prop:=(es.map zY).map (xW P)=es∧(es.map zY).map GZ=ds∧(es.map zY).all Ix=true
theorem vM.ok(h:vM P es ds):KeysLit P es∧DR Γ imm ρ es ds:=by
 have k:=Km (Γ:=Γ) (P:=P) (imm:=imm) (ρ:=ρ) _ h.2.2;rw[h.1,h.2.1] at k;exact k
theorem LJ(P:Params):vM P (BN P) AW:=⟨by kernel_rfl,by kernel_rfl,by kernel_rfl⟩
theorem P5(P:Params):vM P (yV P) BO:=⟨by kernel_rfl,by kernel_rfl,by kernel_rfl⟩
theorem O4(P:Params):(cE P).lookup 308=some (dictOf (BN P) 2):=by kernel_rfl
theorem J3(P:Params):(cE P).lookup 696=some (dictOf (yV P) 15):=by kernel_rfl
theorem KT(P:Params):findIn (cE P) (.ref 736) tP=some (some (.ref 308))∧specialIn (cE P) (.ref 308) "__get__"=some none∧copiedNames.contains tP=false:=⟨by kernel_rfl,by kernel_rfl,by kernel_rfl⟩
theorem Ti(P:Params):findIn (cE P) (.ref 736) tB=some (some (.ref 696))∧specialIn (cE P) (.ref 696) "__get__"=some none∧copiedNames.contains tB=false:=⟨by kernel_rfl,by kernel_rfl,by kernel_rfl⟩
theorem Lf:(nA.all fun p=>p.2.consts.isEmpty ||Nat.beq p.1 736)=true:=by kernel_rfl
def Ey:CI:=(eD 736 nA).getD ⟨none,false,[],[],[],[]⟩
theorem To:Ey.consts=[(tP,.dict AW),(tB,.dict BO)]:=by kernel_rfl
theorem Ny:eD 736 nA=some Ey:=by kernel_rfl
theorem So{w:World}{ε:Ev}(hw:ε.P=w.params):∀ C c,eD C nA=some c→ec (ab w mg mb ε) C c:=fun C c h=>by
 have hm:=zg h;have c1:=aq (congrFun S1 w.params) _ hm;have c2:=aq (congrFun Qy w.params) _ hm;have c3:=aq (congrFun Jw w.params) _ hm;refine UN (Γ:=ab w mg mb ε) c1 c2 c3 (fun x v hx=>?_) (Nm w.params);have c4:=aq Lf _ hm;dsimp only at c4;rw[Bool.or_eq_true] at c4;rcases c4 with c4|c4
 ·rw[List.isEmpty_iff.mp c4] at hx;injection hx
 ·have:=bX c4
  subst this;rw[Ny] at h;(apply j1 h;clear h;rintro rfl);rw[To] at hx;replace hx:=jv hx;rcases bU hx with hx|hx
  ·(injection hx with e1 e2;subst e1;subst e2)
   apply d5 (KT w.params);intro f1 f2 f3;refine⟨.ref 308,f1,f2,rfl,f3,fun imm ρ=>?_⟩;apply aN ((LJ w.params).ok (Γ:=ab w mg mb ε) (imm:=imm) (ρ:=ρ));intro r1 r2;exact .dict (.inr (O4 w.params)) ⟨by show KeysLit ε.P _;rw[hw];exact r1,by decide⟩ r2
  ·rcases bU hx with hx|hx
   ·(injection hx with e1 e2;subst e1;subst e2)
    apply d5 (Ti w.params);intro f1 f2 f3;refine⟨.ref 696,f1,f2,rfl,f3,fun imm ρ=>?_⟩;apply aN ((P5 w.params).ok (Γ:=ab w mg mb ε) (imm:=imm) (ρ:=ρ));intro r1 r2;exact .dict (.inr (J3 w.params)) ⟨by show KeysLit ε.P _;rw[hw];exact r1,by decide⟩ r2
   ·cases hx
theorem M9{α:Type}{x:Str}{v:α}{l:List (Str×α)}{f:Str×α→Bool}(h:l.all f=true)(hx:lk x l=some v):f (x,v)=true:=aq h _ (jv hx)
noncomputable def ja(Γ:ar)(b:Nat)(sp:pr):Prop:=∀ σ f vs p,sp σ f vs=some p→fnIn Γ.K f=true∧cF Γ (b+25) σ f vs [] p.1 p.2
theorem rM{w:World}{ε:Ev}(hw:ε.P=w.params)(he:ε.Ok)(hb:aM β ε)(hs:ja (ab w mg mb ε) b sp):g8 (ab w mg mb ε) b (l9 β sp) where
 hw:=hw
 he:=he
 hb:=hb
 hy:=So hw
 hg:=fun x v h=>TT (Γ:=ab w mg mb ε) (p:=(x,v)) (M9 (congrFun QC w.params) h)
 hf:=fun f fi h=>Uo (Γ:=ab w mg mb ε) (Qj w.params _ (zg h))
 hs:=hs
 nm:=Pv
theorem AN{w:World}{ε:Ev}(hw:ε.P=w.params)(he:ε.Ok)(hb:aM β ε):g8 (ab w mg mb ε) 0 (wz β):=rM hw he hb fun U U U U h=>by injection h
noncomputable abbrev Sp:=pr
noncomputable def bj:Sp:=fun U U U=>none
theorem oN:ja Γ b bj:=fun U U U U h=>by injection h
end
end
section
noncomputable def tn{α:Type}(d:α)(l:List α)(k:Nat):α:=(ak l k).getD d
noncomputable def tO{α:Type}(o:Nat→α)(i:Nat)(l:List (Option α))(k:Nat):α:=Bool.rec (o k) (((ak l (k-i)).getD none).getD (o k)) (Nat.ble i k)
theorem pn(h:k<i):Nat.ble i k=false:=by
 cases e:Nat.ble i k with
 |false=>rfl
 |true=>exact absurd (df e) (Nat.not_le.mpr h)
theorem Mt{α:Type}{o:Nat→α}{i:Nat}{l:List (Option α)}{k:Nat}(h:k<i):tO o i l k=o k:=by
 unfold tO;rw[pn h]
theorem pT{α:Type}{o:Nat→α}{i:Nat}{l:List (Option α)}{k:Nat}(h:i+l.length≤k):tO o i l k=o k:=by
 unfold tO;rw[dH,List.getElem?_eq_none (Nat.le_sub_of_add_le' h)];cases Nat.ble i k<;>rfl
section
theorem AV.ind{p:AV→Prop}(none:p .none)(bool:∀ b,p (.bool b))(int:∀ l,p (.int l))(str:∀ s,p (.str s))(cell:∀ k,p (.cell k))(tup:∀ xs,(∀ x∈xs,p x)→p (.tup xs))
  (obj:∀ C fs,(∀ q∈fs,p q.2)→p (.obj C fs)) (dict:∀ es,(∀ q∈es,p q.2)→p (.dict es)) (cls:∀ a,p (.cls a)) (fn:∀ a,p (.fn a)) (bi:∀ k,p (.bi k))
  (meth:∀ f v,p v→p (.meth f v)) (any:∀ i,p (.any i)) (rng:∀ n,p (.rng n)):∀ x,p x :=
 AV.rec (motive_1:=p) (motive_2:=fun xs=>∀ x∈xs,p x) (motive_3:=fun xs=>∀ q∈xs,p q.2) (motive_4:=fun xs=>∀ q∈xs,p q.2) (motive_5:=fun q=>p q.2) (motive_6:=fun q=>p q.2)
  none bool int str cell tup obj dict cls fn bi meth any rng
  (fun x h=>by cases h) (fun U U a b=>List.forall_mem_cons.mpr ⟨a,b⟩) (fun x h=>by cases h) (fun U U a b=>List.forall_mem_cons.mpr ⟨a,b⟩) (fun x h=>by cases h) (fun U U a b=>List.forall_mem_cons.mpr ⟨a,b⟩) (fun U U h=>h) (fun U U h=>h)
structure eY where
 L:am→am
 S:SS→SS
 v:Nat→AV
 z:Nat→aw
 c:Nat→Nat
def flA(φ:eY):AV→AV :=
 AV.rec (motive_1:=fun U=>AV) (motive_2:=fun U=>List AV) (motive_3:=fun U=>List (Str×AV)) (motive_4:=fun U=>List (List Nat×AV)) (motive_5:=fun U=>Str×AV) (motive_6:=fun U=>List Nat×AV)
  .none .bool (fun l=>.int (φ.L l)) (fun s=>.str (φ.S s)) (fun k=>.cell (φ.c k)) (fun U h=>.tup h) (fun C U h=>.obj C h) (fun U h=>.dict h) .cls .fn .bi (fun f U h=>.meth f h) (fun i=>φ.v i) .rng
  [] (fun U U a b=>a::b) [] (fun U U a b=>a::b) [] (fun U U a b=>a::b) (fun x U h=>(x,h)) (fun x U h=>(x,h))
def aO(φ:eY)(xs:List AV):List AV:=xs.map (flA φ)
def fQ{α:Type}(φ:eY)(xs:List (α×AV)):List (α×AV):=xs.map fun q=>(q.1,flA φ q.2)
def lv:AV→List AV :=
 AV.rec (motive_1:=fun U=>List AV) (motive_2:=fun U=>List AV) (motive_3:=fun U=>List AV) (motive_4:=fun U=>List AV) (motive_5:=fun U=>List AV) (motive_6:=fun U=>List AV)
  [] (fun U=>[]) (fun U=>[]) (fun s=>[.str s]) (fun k=>[.cell k]) (fun U h=>h) (fun U U h=>h) (fun U h=>h) (fun U=>[]) (fun U=>[]) (fun U=>[]) (fun U U h=>h) (fun i=>[.any i]) (fun U=>[])
  [] (fun U U a b=>a++b) [] (fun U U a b=>a++b) [] (fun U U a b=>a++b) (fun U U h=>h) (fun U U h=>h)
def hH(xs:List AV):List AV:=xs.flatMap lv
def dc{α:Type}(xs:List (α×AV)):List AV:=xs.flatMap fun q=>lv q.2
section
variable (φ:eY)
theorem Bm:∀ xs,flA φ (.tup xs)=.tup (aO φ xs):=by
 intro L0;induction L0 with
 |nil=>
  exact rfl
 |cons a r ih=>
  exact congrArg (fun v=>match v with|.tup l=>AV.tup (flA φ a::l)|v=>v) (ih)
theorem Af(C:Addr):∀ xs,flA φ (.obj C xs)=.obj C (fQ φ xs):=by
 intro L0;induction L0 with
 |nil=>
  exact rfl
 |cons a r ih=>
  exact congrArg (fun v=>match v with|.obj C l=>AV.obj C ((a.1,flA φ a.2)::l)|v=>v) (ih)
theorem Aa:∀ xs,flA φ (.dict xs)=.dict (fQ φ xs):=by
 intro L0;induction L0 with
 |nil=>
  exact rfl
 |cons a r ih=>
  exact congrArg (fun v=>match v with|.dict l=>AV.dict ((a.1,flA φ a.2)::l)|v=>v) (ih)
end
theorem zD:∀ xs,lv (.tup xs)=hH xs:=by
 intro L0;induction L0 with
 |nil=>
  exact rfl
 |cons a r ih=>
  exact congrArg (lv a++·) (ih)
theorem Bo(C:Addr):∀ xs,lv (.obj C xs)=dc xs:=by
 intro L0;induction L0 with
 |nil=>
  exact rfl
 |cons a r ih=>
  exact congrArg (lv a.2++·) (ih)
theorem yB:∀ xs,lv (.dict xs)=dc xs:=by
 intro L0;induction L0 with
 |nil=>
  exact rfl
 |cons a r ih=>
  exact congrArg (lv a.2++·) (ih)
noncomputable def Ar(x:AV):List Nat:=match x with
 |.any i=>[i]
 |_=>[]
noncomputable def jI(l:List AV):List Nat:=l.flatMap Ar
noncomputable def QQ(x:AV):List Nat:=match x with
 |.cell k=>[k]
 |_=>[]
noncomputable def wq(l:List AV):List Nat:=l.flatMap QQ
theorem r9(a b:List AV):jI (a++b)=jI a++jI b:=List.flatMap_append ..
theorem Fd(a b:List AV):wq (a++b)=wq a++wq b:=List.flatMap_append ..
noncomputable def nZ(β:Bd)(p:Pc):Bool:=match p with
 |.rep _ n=>match n.lo β with|some (.ofNat _)=>true|_=>false
 |_=>true
noncomputable def kF(β:Bd)(x:AV):Bool:=match x with
 |.str s=>s.all (nZ β)
 |_=>true
noncomputable def ar.wE(Γ:ar)(ε:Ev):ar:={Γ with ε:=ε}
noncomputable def Ev.wO(ε:Ev)(ov:Nat→Value)(cv:Nat→CC):Ev:={ε with ov:=ov,cv:=cv}
section
variable {ε:Ev}{ov:Nat→Value}{cv:Nat→CC}
theorem Ow:∀ l,bY (ε.wO ov cv) l=bY ε l:=by
 intro L0;induction L0 with
 |nil=>
  exact rfl
 |cons p r ih=>
  show p.2*ε.iv p.1+bY (ε.wO ov cv) r=_;rw[ih];rfl
theorem n8(l:am):l.val (ε.wO ov cv)=l.val ε:=by unfold am.val;rw[Ow]
theorem SY:∀ p:Pc,p.val (ε.wO ov cv)=p.val ε
 |.lit _=>rfl
 |.var _=>rfl
 |.rep c n=>by show List.replicate (n.val (ε.wO ov cv)).toNat c=_;rw[n8];rfl
theorem oW:∀ s:SS,s.val (ε.wO ov cv)=s.val ε:=by
 intro L0;induction L0 with
 |nil=>
  exact rfl
 |cons p r ih=>
  show p.val (ε.wO ov cv)++SS.val (ε.wO ov cv) r=_;rw[SY,ih];rfl
theorem vt:cG (ε.wO ov cv) s↔cG ε s:=by
 constructor<;>intro h p hp<;>have:=h p hp
 ·induction p using Pc.casesOn with
  |rep c n=>have h2:0≤n.val (ε.wO ov cv):=this;rw[n8] at h2;exact h2
  |_=>trivial
 ·induction p using Pc.casesOn with
  |rep c n=>show 0≤n.val (ε.wO ov cv);rw[n8];exact this
  |_=>trivial
theorem CM(h:iH Γ C):iH (Γ.wE ε) C:=⟨h.ga,h.hd,h.sa,h.po,h.tb,h.tl⟩
theorem Gh{Γ:ar}(h:iH (Γ.wE ε) C):iH Γ C:=⟨h.ga,h.hd,h.sa,h.po,h.tb,h.tl⟩
end
structure eJ (Γ:ar) (β:Bd) (ε:Ev) (φ:eY):Prop where
 P:ε.P=Γ.ε.P
 he:ε.Ok
 hb:aM β ε
 L:∀ l,(φ.L l).val Γ.ε=l.val ε
 S:∀ s,(φ.S s).val Γ.ε=s.val ε
 O:∀ s,cG ε s→cG Γ.ε (φ.S s)
theorem zh{α:Type}{f:α→Bool}{a b:List α}(h:(a++b).all f=true):a.all f=true∧b.all f=true:=by
 rw[List.all_append,Bool.and_eq_true] at h;exact h
section
variable {Γ:ar}{β:Bd}{ε:Ev}{φ:eY}
theorem uP(hb:aM β ε){s:SS}(h:s.all (nZ β)=true):cG ε s:=by
 intro p hp;have:=aq h p hp;induction p using Pc.casesOn with
 |rep c n=>
  show 0≤n.val ε;have this:(match n.lo β with|some (.ofNat _)=>true|_=>false)=true:=this;cases e:n.lo β with
  |none=>rw[e] at this;injection this
  |some t=>
   rw[e] at this;cases t with
   |ofNat t=>exact Int.le_trans (bK t) (sj hb e)
   |negSucc t=>injection this
 |_=>trivial
theorem uT{α:Type}(fs:List (α×AV)):(fQ φ fs).map Prod.fst=fs.map Prod.fst:=by unfold fQ;rw[List.map_map];rfl
theorem wf{C:Addr}{K:Frag}{fs gs:List (Str×AV)}(e:fs.map Prod.fst=gs.map Prod.fst)(h:∀ p∈fs,findIn K (.ref C) p.1=some none):∀ p∈gs,findIn K (.ref C) p.1=some none:=fun p hp=>by
 have:p.1∈fs.map Prod.fst:=e▸List.mem_map_of_mem hp;apply ah (dm this);intro q h1 h2;rw[←h2];exact h q h1
section
variable {imm:List (Addr×Obj)}{ρ ρ':List Addr}
noncomputable abbrev oE (Γ:ar) (imm:List (Addr×Obj)) (ρ:List Addr) (θ:Nat→AV) (as:List (Nat×Value)):Prop:=∀ p∈as,VR Γ imm ρ p.2 (θ p.1)
noncomputable abbrev ky (ov:Nat→Value) (as:List (Nat×Value)):Prop:=∀ p∈as,ov p.1=p.2
theorem oE.app(h:oE Γ imm ρ θ as)(g:oE Γ imm ρ θ bs):oE Γ imm ρ θ (as++bs):=fun p hp=>(ey hp).elim (h p) (g p)
theorem ky.l{ov:Nat→Value}{as bs:List (Nat×Value)}(h:ky ov (as++bs)):ky ov as:=fun p hp=>h p (bq _ hp)
theorem ky.r{ov:Nat→Value}{as bs:List (Nat×Value)}(h:ky ov (as++bs)):ky ov bs:=fun p hp=>h p (cS _ hp)
noncomputable def Dn(Γ:ar)(β:Bd)(φ:eY)(imm:List (Addr×Obj))(ρ:List Addr)(l:List AV)(X:(Nat→Value)→(Nat→CC)→Prop):Prop :=
 l.all (kF β)=true→∃ as,as.map Prod.fst=jI l∧oE Γ imm ρ φ.v as∧∀ ov cv,ky ov as→X ov cv
theorem Dn.nil{X:(Nat→Value)→(Nat→CC)→Prop}(h:∀ ov cv,X ov cv):Dn Γ β φ imm ρ [] X:=fun U=>⟨[],rfl,fun U h=>absurd h List.not_mem_nil,fun U U U=>h _ _⟩
theorem Dn.to{X X':(Nat→Value)→(Nat→CC)→Prop}(h:Dn Γ β φ imm ρ l X)(f:∀ ov cv,X ov cv→X' ov cv):Dn Γ β φ imm ρ l X':=fun g=>by
 apply dh (h g);intro as e s t;exact⟨as,e,s,fun ov cv k=>f _ _ (t ov cv k)⟩
theorem Dn.app{l l':List AV}{X X' Z:(Nat→Value)→(Nat→CC)→Prop}(h:Dn Γ β φ imm ρ l X)(h':Dn Γ β φ imm ρ l' X')(f:∀ ov cv,X ov cv→X' ov cv→Z ov cv):Dn Γ β φ imm ρ (l++l') Z:=fun g=>by
 apply aN (zh g);intro g1 g2;apply dh (h g1);intro as e s t;apply dh (h' g2);intro bs e' s' t';exact⟨as++bs,by rw[List.map_append,e,e',r9],s.app s',fun ov cv k=>f _ _ (t ov cv k.l) (t' ov cv k.r)⟩
theorem Dn.letter{X:(Nat→Value)→(Nat→CC)→Prop}(hx:Ar x=[i])(h:VR Γ imm ρ v (φ.v i))(f:kF β x=true→∀ ov cv,ov i=v→X ov cv):Dn Γ β φ imm ρ [x] X:=fun g=>
 ⟨[(i,v)],by show _=Ar x++[];rw[hx];rfl,fun p hp=>by rw[cH hp];exact h,fun ov cv k=>f (by simpa using g) ov cv (k (i,v) (.head _))⟩
theorem ao.dn(H:∀ x∈xs,∀ v,VR Γ imm ρ v (flA φ x)→Dn Γ β φ imm ρ (lv x) fun ov cv=>VR (Γ.wE (ε.wO ov cv)) imm ρ v x):∀ vs,ao Γ imm ρ vs (aO φ xs)→Dn Γ β φ imm ρ (hH xs) fun ov cv=>ao (Γ.wE (ε.wO ov cv)) imm ρ vs xs:=by
 induction xs with
 |nil=>exact fun vs h=>by (obtain e:_=_:=ao.inv h;subst e);exact .nil fun U U=>.nil
 |cons x r ih=>exact fun vs h=>by obtain⟨_,_,e0,a,b⟩:=ao.inv h;clear h;subst e0;exact(H _ (.head _) _ a).app (ih (fun y hy=>H y (.tail _ hy)) _ b) fun U U=>.cons
theorem be.dn(H:∀ q∈xs,∀ v,VR Γ imm ρ v (flA φ q.2)→Dn Γ β φ imm ρ (lv q.2) fun ov cv=>VR (Γ.wE (ε.wO ov cv)) imm ρ v q.2):∀ vs,be Γ imm ρ vs (fQ φ xs)→Dn Γ β φ imm ρ (dc xs) fun ov cv=>be (Γ.wE (ε.wO ov cv)) imm ρ vs xs:=by
 induction xs with
 |nil=>exact fun vs h=>by cases h;exact .nil fun U U=>.nil
 |cons x r ih=>exact fun vs h=>by obtain⟨_,_,_,_,e0,a,b⟩:=be.inv h;clear h;subst e0;exact(H _ (.head _) _ a).app (ih (fun y hy=>H y (.tail _ hy)) _ b) fun U U=>.cons
theorem DR.dn(H:∀ q∈xs,∀ v,VR Γ imm ρ v (flA φ q.2)→Dn Γ β φ imm ρ (lv q.2) fun ov cv=>VR (Γ.wE (ε.wO ov cv)) imm ρ v q.2):∀ vs,DR Γ imm ρ vs (fQ φ xs)→Dn Γ β φ imm ρ (dc xs) fun ov cv=>DR (Γ.wE (ε.wO ov cv)) imm ρ vs xs:=by
 induction xs with
 |nil=>exact fun vs h=>by cases h;exact .nil fun U U=>.nil
 |cons x r ih=>exact fun vs h=>by obtain⟨_,_,_,_,e0,a,b⟩:=DR.inv h;clear h;subst e0;exact(H _ (.head _) _ a).app (ih (fun y hy=>H y (.tail _ hy)) _ b) fun U U=>.cons
theorem VR.dn(F:eJ Γ β ε φ)(hc:φ.c=id):∀ (x:AV) (v:Value),VR Γ imm ρ v (flA φ x)→Dn Γ β φ imm ρ (lv x) fun ov cv=>VR (Γ.wE (ε.wO ov cv)) imm ρ v x:=by
 refine AV.ind ?_ ?_ ?_ ?_ ?_ ?_ ?_ ?_ ?_ ?_ ?_ ?_ ?_ ?_
 ·exact fun v h=>h.inv▸.nil fun U U=>.none
 ·exact fun b v h=>h.inv▸.nil fun U U=>.bool b
 ·exact fun l v h=>by obtain⟨t,rfl⟩:=h.inv;exact .nil fun U U=>.int (by rw[F.L];exact(n8 l).symm)
 ·exact fun s v h g=>by
   have g:s.all (nZ β)=true:=by
    have:(kF β (.str s)&&true)=true:=g;rw[Bool.and_true] at this;exact this
   apply dh h.inv;intro t e0 o k;subst e0;rw[F.S] at k ⊢;exact⟨[],rfl,nofun,fun U U U=>.str (congrArg aG (oW s).symm) (vt.mpr (uP (ε:=ε) F.hb g)) (by rw[show (Γ.wE (ε.wO _ _)).ε=ε.wO _ _ from rfl,oW];exact k)⟩
 ·exact fun l v h U=>by
   apply ah h.inv;intro a e0 e;subst e0;rw[hc] at e;exact⟨[],rfl,nofun,fun U U U=>.cell e⟩
 ·exact fun xs ih v h=>by
   rw[Bm] at h;rw[zD];apply eZ h.inv;intro _ _ _ e0 a b;subst e0;exact(ao.dn ih _ b).to fun U U=>.tup a
 ·exact fun C fs ih v h=>by
   rw[Af] at h;rw[Bo];apply rB h.inv;intro _ _ _ _ e0 a b c d e;subst e0;exact(be.dn ih _ c).to fun U U r=>.obj a b r (wf (uT fs) d) (CM e)
 ·exact fun xs ih v h=>by
   rw[Aa] at h;rw[yB];apply dD h.inv;intro _ _ _ e0 a b c;subst e0;exact(DR.dn ih _ c).to fun U U=>.dict a (by rw[←F.P] at b;exact b)
 ·exact fun U v h=>h.inv▸.nil fun U U=>.cls
 ·exact fun U v h=>h.inv▸.nil fun U U=>.fn
 ·exact fun U v h=>h.inv▸.nil fun U U=>.bi
 ·exact fun f x ih v h=>by
   apply ir h.inv;intro _ _ e0 a b;subst e0;exact(ih _ b).to fun U U=>.meth a
 ·exact fun i v h=>.letter (i:=i) rfl h fun U ov cv k=>.any k
 ·exact fun n v h=>by obtain⟨_,_,_,_,rfl,a,b⟩:=h.inv;exact .nil fun U U=>.rng a b
noncomputable def d8(Γ:ar)(φ:eY)(imm:List (Addr×Obj))(ρ ρ':List Addr)(ov:Nat→Value)(l:List AV):Prop:=(∀ i∈jI l,VR Γ imm ρ' (ov i) (φ.v i))∧∀ k∈wq l,∀ a,ak ρ k=some a→ak ρ' (φ.c k)=some a
section
variable {ov:Nat→Value}{cv:Nat→CC}
theorem d8.l{l l':List AV}(h:d8 Γ φ imm ρ ρ' ov (l++l')):d8 Γ φ imm ρ ρ' ov l:=by
 unfold d8 at h ⊢;rw[r9,Fd] at h;exact⟨fun i hi=>h.1 i (bq _ hi),fun i hi=>h.2 i (bq _ hi)⟩
theorem d8.r{l l':List AV}(h:d8 Γ φ imm ρ ρ' ov (l++l')):d8 Γ φ imm ρ ρ' ov l':=by
 unfold d8 at h ⊢;rw[r9,Fd] at h;exact⟨fun i hi=>h.1 i (cS _ hi),fun i hi=>h.2 i (cS _ hi)⟩
theorem ao.up'{xs:List AV}(H:∀ x∈xs,∀ v,d8 Γ φ imm ρ ρ' ov (lv x)→VR (Γ.wE (ε.wO ov cv)) imm ρ v x→VR Γ imm ρ' v (flA φ x)):∀ vs,d8 Γ φ imm ρ ρ' ov (hH xs)→ao (Γ.wE (ε.wO ov cv)) imm ρ vs xs→ao Γ imm ρ' vs (aO φ xs):=by
 induction xs with
 |nil=>exact fun vs U h=>by (obtain e:_=_:=ao.inv h;subst e);exact .nil
 |cons x r ih=>exact fun vs o h=>by obtain⟨_,_,e0,a,b⟩:=ao.inv h;clear h;subst e0;exact .cons (H _ (.head _) _ o.l a) (ih (fun y hy=>H y (.tail _ hy)) _ o.r b)
theorem be.up'{xs:List (Str×AV)}(H:∀ q∈xs,∀ v,d8 Γ φ imm ρ ρ' ov (lv q.2)→VR (Γ.wE (ε.wO ov cv)) imm ρ v q.2→VR Γ imm ρ' v (flA φ q.2)):∀ vs,d8 Γ φ imm ρ ρ' ov (dc xs)→be (Γ.wE (ε.wO ov cv)) imm ρ vs xs→be Γ imm ρ' vs (fQ φ xs):=by
 induction xs with
 |nil=>exact fun vs U h=>by cases h;exact .nil
 |cons x r ih=>exact fun vs o h=>by obtain⟨_,_,_,_,e0,a,b⟩:=be.inv h;clear h;subst e0;exact .cons (H _ (.head _) _ o.l a) (ih (fun y hy=>H y (.tail _ hy)) _ o.r b)
theorem DR.up'{xs:List (List Nat×AV)}(H:∀ q∈xs,∀ v,d8 Γ φ imm ρ ρ' ov (lv q.2)→VR (Γ.wE (ε.wO ov cv)) imm ρ v q.2→VR Γ imm ρ' v (flA φ q.2)):∀ vs,d8 Γ φ imm ρ ρ' ov (dc xs)→DR (Γ.wE (ε.wO ov cv)) imm ρ vs xs→DR Γ imm ρ' vs (fQ φ xs):=by
 induction xs with
 |nil=>exact fun vs U h=>by cases h;exact .nil
 |cons x r ih=>exact fun vs o h=>by obtain⟨_,_,_,_,e0,a,b⟩:=DR.inv h;clear h;subst e0;exact .cons (H _ (.head _) _ o.l a) (ih (fun y hy=>H y (.tail _ hy)) _ o.r b)
theorem VR.up(F:eJ Γ β ε φ):∀ (x:AV) (v:Value),d8 Γ φ imm ρ ρ' ov (lv x)→VR (Γ.wE (ε.wO ov cv)) imm ρ v x→VR Γ imm ρ' v (flA φ x):=by
 refine AV.ind ?_ ?_ ?_ ?_ ?_ ?_ ?_ ?_ ?_ ?_ ?_ ?_ ?_ ?_
 ·exact fun v U h=>h.inv▸.none
 ·exact fun b v U h=>h.inv▸.bool b
 ·exact fun l v U h=>by obtain⟨t,rfl⟩:=h.inv;exact .int ((n8 l).trans (F.L _).symm)
 ·exact fun s v U h=>by obtain⟨t,rfl,g,k⟩:=h.inv;exact .str (congrArg aG ((oW s).trans (F.S _).symm)) (F.O _ (vt.mp g)) (by rw[F.S,←oW];exact k)
 ·exact fun k v o h=>by obtain⟨a,rfl,e⟩:=h.inv;exact .cell (o.2 k (.head _) _ e)
 ·exact fun xs ih v o h=>by
   rw[zD] at o;rw[Bm];obtain⟨_,_,_,rfl,a,b⟩:=h.inv;exact .tup a (ao.up' ih _ o b)
 ·exact fun C fs ih v o h=>by
   rw[Bo] at o;rw[Af];obtain⟨_,_,_,_,rfl,a,b,c,d,e⟩:=h.inv;exact .obj a b (be.up' ih _ o c) (wf (uT fs).symm d) (Gh e)
 ·exact fun es ih v o h=>by
   rw[yB] at o;rw[Aa];obtain⟨_,_,_,rfl,h,k,g⟩:=h.inv;exact .dict h (by rw[←F.P];exact k) (DR.up' ih _ o g)
 ·exact fun U v U h=>h.inv▸.cls
 ·exact fun U v U h=>h.inv▸.fn
 ·exact fun U v U h=>h.inv▸.bi
 ·exact fun f x ih v o h=>by
   obtain⟨_,_,rfl,a,b⟩:=h.inv;exact .meth a (ih _ o b)
 ·exact fun i v o h=>by
   have:VR Γ imm ρ' (ov i) (φ.v i):=o.1 i (.head _);rw[show ov i=v from h.inv] at this;exact this
 ·exact fun n v U h=>by obtain⟨_,_,_,_,rfl,a,b⟩:=h.inv;exact .rng a b
theorem ao.up(F:eJ Γ β ε φ)(xs:List AV)(vs:List Value):d8 Γ φ imm ρ ρ' ov (hH xs)→ao (Γ.wE (ε.wO ov cv)) imm ρ vs xs→ao Γ imm ρ' vs (aO φ xs):=ao.up' (fun x U=>VR.up F x) vs
theorem be.up(F:eJ Γ β ε φ)(xs:List (Str×AV))(vs:List DictEntry):d8 Γ φ imm ρ ρ' ov (dc xs)→be (Γ.wE (ε.wO ov cv)) imm ρ vs xs→be Γ imm ρ' vs (fQ φ xs):=be.up' (fun x U=>VR.up F x.2) vs
end
end
end
end
end
section
section
noncomputable def l8:List Nat→Bool
 |[]=>true
 |a::r=>!aK a r&&l8 r
def Bk(a b:List Nat):Bool:=a.all fun i=>aK i b
noncomputable def ld:List (Str×AV)→Bool
 |[]=>true
 |p::r=>match lk p.1 r with
  |none=>ld r
  |some _=>false
theorem o9:∀ {l:List Nat},aK i l=true↔i∈l:=by
 intro L0;induction L0 with
 |nil=>
  exact⟨fun h=>(nomatch (show false=true from h)),fun h=>(nomatch h)⟩
 |cons b r ih=>
  have e:aK i (b::r)=(Nat.beq i b ||aK i r):=by
   show Bool.rec (motive:=fun U=>Bool) (aK i r) true (Nat.beq i b)=_;cases Nat.beq i b<;>rfl
  rw[e,Bool.or_eq_true,ih,List.mem_cons];exact or_congr_left ⟨bX,fun h=>by rw[h];exact Nat.beq_refl _⟩
set_option smartUnfolding false in
theorem Bv:∀ {l:List Nat},l8 l=true→l.Nodup:=by
 intro L0;induction L0 with
 |nil=>
  intro _;exact .nil
 |cons a r ih=>
  intro h;replace h:=aB (show (!aK a r&&l8 r)=true from h);refine List.nodup_cons.mpr ⟨fun q=>?_,ih h.2⟩;rw[o9.mpr q] at h;cases h.1
theorem ES(h:Bk a b=true):∀ i∈a,i∈b:=fun i hi=>o9.mp (aq h i hi)
def fC(φ:eY)(c:aw):aw:=match c with
 |.list xs=>.list (aO φ xs)
 |.rows t n=>.rows (φ.S t) (φ.L n)
 |.inst C fs=>.inst C (fQ φ fs)
 |.any i=>φ.z i
def bC(φ:eY)(σ:St):St:=σ.map (fC φ)
def fF(φ:eY)(f:Fl):Fl:=match f with
 |.ret v=>.ret (flA φ v)
 |.next=>.next
def cC(φ:eY)(ls:ac):ac:=⟨fQ φ ls.v,ls.sc⟩
def pW(c:aw):List AV:=match c with
 |.list xs=>hH xs
 |.rows t _=>[.str t]
 |.inst _ fs=>dc fs
 |.any _=>[]
def fX(σ:St):List AV:=σ.flatMap pW
def HF(f:Fl):List AV:=match f with
 |.ret v=>lv v
 |_=>[]
noncomputable def xo(c:aw):List Nat:=match c with|.any i=>[i]|_=>[]
noncomputable def lP(σ:St):List Nat:=σ.flatMap xo
section
variable {Γ:ar}{β:Bd}{ε:Ev}{φ:eY}
theorem o8(x:Str)(ls:List (Str×AV)):lk x (fQ φ ls)=(lk x ls).map (flA φ):=oA (flA φ) x ls
section
variable {imm:List (Addr×Obj)}{ρ ρ':List Addr}
noncomputable abbrev I4 (Γ:ar) (imm:List (Addr×Obj)) (ρ:List Addr) (ζ:Nat→aw) (as:List (Nat×CC)):Prop:=∀ p∈as,CR Γ imm ρ p.2 (ζ p.1)
noncomputable abbrev Bc (cv:Nat→CC) (as:List (Nat×CC)):Prop:=∀ p∈as,cv p.1=p.2
noncomputable def mJ(Γ:ar)(β:Bd)(φ:eY)(imm:List (Addr×Obj))(ρ:List Addr)(l:List AV)(z:List Nat)(X:(Nat→Value)→(Nat→CC)→Prop):Prop :=
 l.all (kF β)=true→∃ as cas,as.map Prod.fst=jI l∧oE Γ imm ρ φ.v as∧cas.map Prod.fst=z∧I4 Γ imm ρ φ.z cas∧∀ ov cv,ky ov as→Bc cv cas→X ov cv
theorem mJ.of{X:(Nat→Value)→(Nat→CC)→Prop}(h:Dn Γ β φ imm ρ l X):mJ Γ β φ imm ρ l [] X:=fun g=>by
 apply dh (h g);intro as e s t;exact⟨as,[],e,s,rfl,nofun,fun ov cv k U=>t ov cv k⟩
theorem mJ.app{X X' Z:(Nat→Value)→(Nat→CC)→Prop}(h:mJ Γ β φ imm ρ l z X)(h':mJ Γ β φ imm ρ l' z' X')(f:∀ ov cv,X ov cv→X' ov cv→Z ov cv):mJ Γ β φ imm ρ (l++l') (z++z') Z:=fun g=>by
 apply aN (zh g);intro g1 g2;apply xH (h g1);intro as ca e s d u t;apply xH (h' g2);intro bs cb e' s' d' u' t';exact⟨as++bs,ca++cb,by rw[List.map_append,e,e',r9],s.app s',by rw[List.map_append,d,d'],fun p hp=>(ey hp).elim (u p) (u' p),
  fun ov cv k j=>f _ _ (t ov cv k.l fun p hp=>j p (bq _ hp)) (t' ov cv k.r fun p hp=>j p (cS _ hp))⟩
theorem jg.mv(h:jg ε vs l):jg ε' vs l:=by
 induction h with
 |nil=>exact .nil
 |snoc _ ih=>exact .snoc ih
theorem CR.dn(F:eJ Γ β ε φ)(hc:φ.c=id)(x:aw)(h:CR Γ imm ρ c (fC φ x)):mJ Γ β φ imm ρ (pW x) (xo x) fun ov cv=>CR (Γ.wE (ε.wO ov cv)) imm ρ c x:=by
 induction x using aw.casesOn with
 |list xs=>
  apply eZ (CR.list_inv h);intro _ _ _ e0 a b;subst e0;exact .of ((ao.dn (fun x U=>VR.dn F hc x) _ a).to fun U U r=>.list r (by unfold aO at b;rw[List.length_map] at b;exact b))
 |rows tx n=>
  apply dD (CR.rows_inv h);intro _ _ _ e0 a b d;subst e0;rw[F.S] at a;intro g;have g:tx.all (nZ β)=true:=by
   have:(kF β (.str tx)&&true)=true:=g;rw[Bool.and_true] at this;exact this
  exact⟨[],[],rfl,nofun,rfl,nofun,fun ov cv U U=>.rows (by show jg (ε.wO ov cv) _ (SS.val (ε.wO ov cv) tx);rw[oW];exact a.mv) (vt.mpr (uP (ε:=ε) F.hb g)) (by rw[F.L] at d;show _≤n.val (ε.wO ov cv);rw[n8];exact d)⟩
 |inst C fs=>
  apply nu (CR.inst_inv h);intro _ _ _ _ e0 a b d;subst e0;exact .of ((be.dn (fun x U=>VR.dn F hc x.2) _ a).to fun U U r=>.inst r (wf (uT fs) b) (CM d))
 |any i=>exact fun U=>⟨[],[(i,c)],rfl,nofun,rfl,fun p hp=>by rw[cH hp];exact h,fun ov cv U k=>.any (k (i,c) (.head _))⟩
theorem bu.dn(F:eJ Γ β ε φ)(hc:φ.c=id):∀ (x:St) {cs:List CC},bu Γ imm ρ cs (bC φ x)→mJ Γ β φ imm ρ (fX x) (lP x) fun ov cv=>bu (Γ.wE (ε.wO ov cv)) imm ρ cs x:=by
 intro L0;induction L0 with
 |nil=>
  intro _ h;cases h;exact fun U=>⟨[],[],rfl,nofun,rfl,nofun,fun U U U U=>.nil⟩
 |cons x r ih=>
  intro _ h;cases h with|cons a b=>exact(CR.dn F hc x a).app (ih b) fun U U=>.cons
theorem CR.up(F:eJ Γ β ε φ)(x:aw)(o:d8 Γ φ imm ρ ρ' ov (pW x))(oc:∀ i∈xo x,CR Γ imm ρ' (cv i) (φ.z i))(h:CR (Γ.wE (ε.wO ov cv)) imm ρ c x):CR Γ imm ρ' c (fC φ x):=by
 induction x using aw.casesOn with
 |list xs=>
  apply eZ (CR.list_inv h);intro _ _ _ e0 a b;subst e0;exact .list (ao.up F xs _ o a) (by unfold aO;rw[List.length_map];exact b)
 |rows tx n=>
  apply dD (CR.rows_inv h);intro _ _ _ e0 a b d;subst e0;exact .rows (by
   rw[F.S];replace a:jg (ε.wO ov cv) _ (SS.val (ε.wO ov cv) tx):=a;rw[oW] at a;exact a.mv) (F.O _ (vt.mp b)) (by rw[F.L,←n8];exact d)
 |inst C fs=>
  apply nu (CR.inst_inv h);intro _ _ _ _ e0 a b d;subst e0;exact .inst (be.up F fs _ o a) (wf (uT fs).symm b) (Gh d)
 |any i=>
  have:=oc i (.head _);cases h with|any e=>rw[show cv i=_ from e] at this;exact this
theorem bu.up(F:eJ Γ β ε φ):∀ (x:St) {cs:List CC},d8 Γ φ imm ρ ρ' ov (fX x)→(∀ i∈lP x,CR Γ imm ρ' (cv i) (φ.z i))→bu (Γ.wE (ε.wO ov cv)) imm ρ cs x→bu Γ imm ρ' cs (bC φ x):=by
 intro L0;induction L0 with
 |nil=>
  intro _ _ _ h;cases h;exact .nil
 |cons x r ih=>
  intro _ o oc h;replace o:d8 Γ φ imm ρ ρ' ov (pW x++fX r):=o;replace oc:∀ i∈xo x++lP r,CR Γ imm ρ' (cv i) (φ.z i):=oc;cases h with|cons a b=>exact .cons (CR.up F x o.l (fun i hi=>oc i (bq _ hi)) a) (ih o.r (fun i hi=>oc i (cS _ hi)) b)
noncomputable abbrev mE (Γ:ar) (imm:List (Addr×Obj)) (ρ:List Addr) (m:Str→Option Value) (ls:List (Str×AV)):Prop:=∀ x v,lk x ls=some v→∃ val,m x=some val∧VR Γ imm ρ val v
set_option tactic.hygienic true in
theorem AA(F:eJ Γ β ε φ)(hc:φ.c=id):∀ (ls:List (Str×AV)),ld ls=true→mE Γ imm ρ m (fQ φ ls)→Dn Γ β φ imm ρ (dc ls) fun ov cv=>mE (Γ.wE (ε.wO ov cv)) imm ρ m ls:=by
 intro L0;induction L0 with
 |nil=>
  intro _ _;exact .nil fun _ _ x v h=>by injection h
 |cons x0 r ih=>
  obtain⟨y,u⟩:=x0;intro n h;unfold ld at n;dsimp only at n
  split at n
  ·rename_i e
   obtain⟨val,m1,r1⟩:=h y (flA φ u) (by rw[o8,fE,if_pos rfl];rfl);refine(VR.dn F hc u _ r1).app (ih n fun x v hx=>h x v ?_) fun ov cv a b x v hx=>?_
   ·rw[o8] at hx ⊢
    rw[fE]
    by_cases q:y=x
    ·subst q;rw[e] at hx;injection hx
    ·rw[if_neg q];exact hx
   ·rw[fE] at hx
    by_cases q:y=x
    ·subst q;rw[if_pos rfl] at hx;(apply j1 hx;clear hx;rintro rfl);exact⟨val,m1,a⟩
    ·rw[if_neg q] at hx;exact b x v hx
  ·injection n
theorem Qh:∀ {ls:List (Str×AV)},lk x ls=some u→∃ a b,dc ls=a++(lv u++b):=by
 intro L0;induction L0 with
 |nil=>
  intro h;injection h
 |cons x0 r ih=>
  obtain⟨y,v⟩:=x0;intro h;rw[fE] at h
  by_cases e:y=x
  ·rw[if_pos e] at h;(apply j1 h;clear h;rintro rfl);exact⟨[],dc r,rfl⟩
  ·rw[if_neg e] at h
   apply rA (ih h);intro a b q;exact⟨lv v++a,b,by show lv v++dc r=_;rw[q,aX]⟩
theorem vP(F:eJ Γ β ε φ)(o:d8 Γ φ imm ρ ρ' ov (dc ls))(h:mE (Γ.wE (ε.wO ov cv)) imm ρ m ls):mE Γ imm ρ' m (fQ φ ls):=fun x v hx=>by
 rw[o8] at hx;cases q:lk x ls with
 |none=>rw[q] at hx;injection hx
 |some u=>
  rw[q] at hx;(apply j1 hx;clear hx;rintro rfl);apply ah (h x u q);intro val a b;apply rA (Qh q);intro l r e;rw[e] at o;exact⟨val,a,VR.up F u _ o.r.l b⟩
end
noncomputable def su(x:AV):Bool:=match x with|.bool _=>true|_=>false
noncomputable def r6(x:AV):Value:=match x with|.bool b=>.bool b|_=>.none
noncomputable def ic(fr:List Nat)(θ:Nat→AV)(ov:Nat→Value):Prop:=∀ i∈fr,∃ b,θ i=.bool b∧ov i=.bool b
def nE(fr:List Nat)(β:Bd)(θ:Nat→AV)(L:List AV)(P:St):Bool:=L.all (kF β)&&((fX P).all (kF β)&&(l8 (jI (L++fX P)++fr)&&(l8 (lP P)&&fr.all fun i=>su (θ i))))
def stays(fr:List Nat)(L:List AV)(P:St)(L':List AV)(P':St):Bool:=Bk (jI (L'++fX P')) (jI (L++fX P)++fr)&&Bk (lP P') (lP P)
noncomputable def w6(as:List (Nat×Value))(i:Nat):Value:=(as.lookup i).getD .none
noncomputable def x8(as:List (Nat×CC))(i:Nat):CC:=(as.lookup i).getD (.list 0 [] 0)
theorem I3{α:Type}{as:List (Nat×α)}(h:(as.map Prod.fst).Nodup){p:Nat×α}(hp:p∈as):as.lookup p.1=some p.2:=by
 induction as with
 |nil=>cases hp
 |cons q r ih=>
  obtain⟨i,a⟩:=q;apply aN (List.nodup_cons.mp h);intro h1 h2;rw[List.lookup_cons];rcases bU hp with rfl|hp
  ·simp
  ·have:(p.1 == i)=false:=by
    rw[beq_eq_false_iff_ne];intro e;exact h1 (by rw[←e];exact List.mem_map.mpr ⟨p,hp,rfl⟩)
   rw[this];exact ih h2 hp
theorem NJ{as:List (Nat×Value)}(h:(as.map Prod.fst).Nodup):ky (w6 as) as:=fun p hp=>by unfold w6;rw[I3 h hp];rfl
theorem L3{as:List (Nat×CC)}(h:(as.map Prod.fst).Nodup):Bc (x8 as) as:=fun p hp=>by unfold x8;rw[I3 h hp];rfl
structure p8 (Γ:ar) (φ:eY) (fr:List Nat) (imm:List (Addr×Obj)) (cs:List CC) (L:List AV) (P:St) (ov:Nat→Value) (cv:Nat→CC):Prop where
 v:∀ i∈jI (L++fX P)++fr,VR Γ imm (ae cs) (ov i) (φ.v i)
 c:∀ i∈lP P,CR Γ imm (ae cs) (cv i) (φ.z i)
theorem p8.ext(h:p8 Γ φ fr imm cs L P ov cv)(x:aH imm cs imm' cs'):p8 Γ φ fr imm' cs' L P ov cv :=
 ⟨fun i hi=>(h.v i hi).ext x,fun i hi=>(h.c i hi).mono x.i x.r⟩
theorem p8.upL(h:p8 Γ φ fr imm cs L P ov cv)(g:stays fr L P L' P'=true)(hc:φ.c=id) :
  d8 Γ φ imm (ae cs) (ae cs) ov (L'++fX P')∧∀ i∈lP P',CR Γ imm (ae cs) (cv i) (φ.z i):=by
 unfold stays at g;rw[Bool.and_eq_true] at g;exact⟨⟨fun i hi=>h.v i (ES g.1 i hi),fun k U a e=>by rw[hc];exact e⟩,fun i hi=>h.c i (ES g.2 i hi)⟩
theorem w0(F:eJ Γ β ε φ)(hc:φ.c=id)(g:nE fr β φ.v L P=true){X:(Nat→Value)→(Nat→CC)→Prop}
  (hL:Dn Γ β φ imm (ae cs) L X) (hC:bu Γ imm (ae cs) cs (bC φ P)) :
  ∃ ov cv,p8 Γ φ fr imm cs L P ov cv∧ic fr φ.v ov∧X ov cv∧bu (Γ.wE (ε.wO ov cv)) imm (ae cs) cs P:=by
 unfold nE at g;simp only [Bool.and_eq_true] at g;apply oM g;intro g1 g2 g3 g4 g5;apply dh (hL g1);intro as e1 s1 t1;apply xH (bu.dn F hc P hC g2);intro bs ca e2 s2 e3 s3 t2;have ef:(fr.map fun i=>(i,r6 (φ.v i))).map Prod.fst=fr:=by rw[List.map_map];exact(List.map_congr_left fun U U=>rfl).trans (List.map_id fr)
 have nd:(((as++bs)++fr.map fun i=>(i,r6 (φ.v i))).map Prod.fst).Nodup:=by rw[List.map_append,List.map_append,e1,e2,ef,←r9];exact Bv g3
 have nc:(ca.map Prod.fst).Nodup:=by rw[e3];exact Bv g4
 have k:=NJ nd;have kc:=L3 nc;have bo:∀ i∈fr,∃ b,φ.v i=.bool b∧w6 ((as++bs)++fr.map fun i=>(i,r6 (φ.v i))) i=.bool b:=fun i hi=>by
  have h1:=aq g5 i hi;have h2:=k (i,r6 (φ.v i)) (cS _ (List.mem_map.mpr ⟨i,hi,rfl⟩));cases q:φ.v i with
  |bool b=>rw[q] at h2;exact⟨b,rfl,h2⟩
  |_=>rw[q] at h1;injection h1
 refine⟨w6 ((as++bs)++fr.map fun i=>(i,r6 (φ.v i))),x8 ca,⟨fun i hi=>?_,fun i hi=>?_⟩,bo,t1 _ _ k.l.l,t2 _ _ k.l.r kc⟩
 ·rcases ey hi with hi|hi
  ·rw[r9,←e1,←e2,←List.map_append] at hi
   apply ah (dm hi);intro p hp e0;subst e0;rw[k p (bq _ hp)];exact(s1.app s2) p hp
  ·apply ah (bo i hi);intro b q1 q2
   rw[q1,q2];exact .bool b
 ·rw[←e3] at hi
  apply ah (dm hi);intro p hp e0;subst e0;rw[kc p hp];exact s3 p hp
theorem bp.wE(C:bp Γ c A n):bp (Γ.wE ε) c A n:=⟨C.B,C.X,C.T,C.k,C.fr,C.hd,C.dp,C.un⟩
theorem cK.down(h:cK c (cC φ ls)):cK c ls:=⟨h.sc,fun x v hx=>h.lo x (flA φ v) (by show lk x (fQ φ ls.v)=_;rw[o8,hx];rfl),h.nd⟩
theorem cK.up(h:cK c ls):cK c (cC φ ls):=⟨h.sc,fun x v hx=>by
 replace hx:lk x (fQ φ ls.v)=_:=hx;rw[o8] at hx;cases q:lk x ls.v with
 |none=>rw[q] at hx;injection hx
 |some u=>exact h.lo x u q,h.nd⟩
theorem bt.fill(F:eJ Γ β ε φ)(hc:φ.c=id){ls ls':ac}(nl:ld ls.v=true)(g:nE fr β φ.v (dc ls.v) P=true)(g':stays fr (dc ls.v) P (HF f++dc ls'.v) P'=true)
  (H:∀ ov cv,ic fr φ.v ov→bt (Γ.wE (ε.wO ov cv)) n t ls P f ls' P'):bt Γ n t (cC φ ls) (bC φ P) (fF φ f) (cC φ ls') (bC φ P'):=by
 intro c A s m imm cs Q E C l R k;apply sR (w0 F hc g (X:=fun ov cv=>mE (Γ.wE (ε.wO ov cv)) imm (ae cs) m ls.v) (AA F hc ls.v nl R.l) R.C);intro ov cv fo fk hl hcc;refine H ov cv fk C.wE l.down ⟨R.F,R.N,R.nd,hcc,hl⟩ fun h' tk m' imm' cs' fl R' l' x' f'=>?_;apply aN ((fo.ext x').upL g' hc);intro u uc;refine k h' tk m' imm' cs' fl ⟨R'.F,R'.N,R'.nd,bu.up F P' u.r uc R'.C,vP F u.l.r R'.l⟩ l'.up x' ?_;cases f' with
 |next=>exact .next
 |ret h=>exact .ret (VR.up F _ _ u.l.l h)
theorem dr.fillB(F:eJ Γ β ε φ)(hc:φ.c=id){ls:ac}(nl:ld ls.v=true)(g:nE fr β φ.v (dc ls.v) P=true)(g':stays fr (dc ls.v) P (dc ls.v) P'=true)
  (H:∀ ov cv,ic fr φ.v ov→dr (Γ.wE (ε.wO ov cv)) n t ls P (ij b) P'):dr Γ n t (cC φ ls) (bC φ P) (ij b) (bC φ P'):=by
 intro c A s m imm cs Q E C l R k;apply sR (w0 F hc g (X:=fun ov cv=>mE (Γ.wE (ε.wO ov cv)) imm (ae cs) m ls.v) (AA F hc ls.v nl R.l) R.C);intro ov cv fo fk hl hcc;refine H ov cv fk C.wE l.down ⟨R.F,R.N,R.nd,hcc,hl⟩ fun h' tk imm' cs' x R' x' hx=>?_;apply aN ((fo.ext x').upL g' hc);intro u uc;exact k h' tk imm' cs' x ⟨R'.F,R'.N,R'.nd,bu.up F P' u.r uc R'.C,vP F u.l R'.l⟩ x' hx
theorem ao.nil_of(h:ao Γ imm ρ l []):l=[]:=by (obtain e:_=_:=ao.inv h;subst e);rfl
theorem cF.fill(F:eJ Γ β ε φ)(hc:φ.c=id)(g:nE fr β φ.v (hH vs) P=true)(g':stays fr (hH vs) P (lv r) P'=true)
  (H:∀ ov cv,ic fr φ.v ov→cF (Γ.wE (ε.wO ov cv)) n P f vs [] r P'):cF Γ n (bC φ P) f (aO φ vs) [] (flA φ r) (bC φ P'):=by
 intro c A s m ls imm cs vals kwv Rq C R hv hk hk2 k;apply sR (w0 F hc g (X:=fun ov cv=>ao (Γ.wE (ε.wO ov cv)) imm (ae cs) vals vs) (ao.dn (fun x U=>VR.dn F hc x) _ hv) R.C);intro ov cv fo fk hl hcc;have hk2':ao (Γ.wE (ε.wO ov cv)) imm (ae cs) (kwv.map (·.2)) (([]:List (Str×AV)).map (·.2)):=by rw[ao.nil_of hk2];exact .nil
 refine H ov cv fk (ls:=[]) C.wE ⟨R.F,R.N,R.nd,hcc,fun x v hx=>by injection hx⟩ hl hk hk2' fun h' tk imm' cs' val R' x' hx=>?_;apply aN ((fo.ext x').upL g' hc);intro u uc;refine k h' tk imm' cs' val ⟨R'.F,R'.N,R'.nd,bu.up F P' u.r uc R'.C,fun x v hx=>?_⟩ x' (VR.up F r _ u.l hx);apply ah (R.l x v hx);intro val a b;exact⟨val,a,b.ext x'⟩
end
end
end
section
def fU{α:Type}(f:α→α→Bool)(a:List α):List α→Bool:=List.rec (fun b=>aF b) (fun x U ih b=>List.rec false (fun y r U=>Bool.rec false (ih r) (f x y)) b) a
theorem il{α:Type}{f:α→α→Bool}:∀ {a b:List α},(∀ x∈a,∀ y,f x y=true→x=y)→fU f a b=true→a=b
 |[],[],_,_=>rfl
 |[],_::_,_,h=>nomatch (show false=true from h)
 |_::_,[],_,h=>nomatch (show false=true from h)
 |x::a,y::b,H,h=>by
  replace h:Bool.rec (motive:=fun U=>Bool) false (fU f a b) (f x y)=true:=h;cases e:f x y with
  |false=>rw[e] at h;injection h
  |true=>rw[e] at h;rw[H x (.head _) y e,il (fun z hz=>H z (.tail _ hz)) h]
noncomputable def zr(p q:Nat×Int):Bool:=Nat.beq p.1 q.1&&lM p.2 q.2
def qL(a b:am):Bool:=lM a.c b.c&&fU zr a.l b.l
def HQ(p q:Pc):Bool:=match p with
 |.lit a=>match q with|.lit b=>co a b|_=>false
 |.var i=>match q with|.var j=>Nat.beq i j|_=>false
 |.rep c n=>match q with|.rep d m=>Nat.beq c d&&qL n m|_=>false
def yF(a b:SS):Bool:=fU HQ a b
def pE(a b:Bool):Bool:=Bool.rec (Bool.rec true false b) b a
noncomputable def Ip(a b:BF):Bool:=Nat.beq a.ctorIdx b.ctorIdx
noncomputable def MQ(n:Nat):BF:=[BF.len,.isi,.ord,.range,.str,.max,.enum].getD n .len
theorem DH(h:lM a b=true):a=b:=by rw[yW] at h;exact of_decide_eq_true h
theorem zp{a b:am}(h:qL a b=true):a=b:=by
 unfold qL at h;rw[Bool.and_eq_true] at h;cases a;cases b;have h1:=DH h.1;have h2:=il (f:=zr) (fun x U y e=>by
  unfold zr at e;rw[Bool.and_eq_true] at e;exact Prod.ext (bX e.1) (DH e.2)) h.2
 dsimp only at h1 h2;rw[h1,h2]
theorem RH(h:HQ p q=true):p=q:=by
 induction p using Pc.casesOn with
 |lit a=>induction q using Pc.casesOn with
  |lit b=>rw[gJ.mp h]
  |_=>injection h
 |var i=>induction q using Pc.casesOn with
  |var j=>rw[bX h]
  |_=>injection h
 |rep c n=>induction q using Pc.casesOn with
  |rep d m=>
   replace h:(Nat.beq c d&&qL n m)=true:=h;rw[Bool.and_eq_true] at h;rw[bX h.1,zp h.2]
  |_=>injection h
theorem GJ{a b:SS}(h:yF a b=true):a=b:=il (fun U U U e=>RH e) h
theorem sF{a b:Bool}(h:pE a b=true):a=b:=by induction a using oB<;>induction b using oB<;>first|rfl|injection h
theorem Ef(a:BF):MQ a.ctorIdx=a:=by cases a<;>rfl
theorem Mp{a b:BF}(h:Ip a b=true):a=b:=by rw[←Ef a,←Ef b,bX h]
def cZ:AV→AV→Bool :=
 AV.rec (motive_1:=fun U=>AV→Bool) (motive_2:=fun U=>List AV→Bool) (motive_3:=fun U=>List (Str×AV)→Bool) (motive_4:=fun U=>List (List Nat×AV)→Bool) (motive_5:=fun U=>Str×AV→Bool) (motive_6:=fun U=>List Nat×AV→Bool)
  (fun y=>match y with|.none=>true|_=>false)
  (fun b y=>match y with|.bool c=>pE b c|_=>false)
  (fun l y=>match y with|.int m=>qL l m|_=>false)
  (fun l y=>match y with|.str m=>yF l m|_=>false)
  (fun l y=>match y with|.cell m=>Nat.beq l m|_=>false)
  (fun U h y=>match y with|.tup m=>h m|_=>false)
  (fun C U h y=>match y with|.obj D m=>Bool.rec false (h m) (Nat.beq C D)|_=>false)
  (fun U h y=>match y with|.dict m=>h m|_=>false)
  (fun l y=>match y with|.cls m=>Nat.beq l m|_=>false)
  (fun l y=>match y with|.fn m=>Nat.beq l m|_=>false)
  (fun l y=>match y with|.bi m=>Ip l m|_=>false)
  (fun f U h y=>match y with|.meth g m=>Bool.rec false (h m) (Nat.beq f g)|_=>false)
  (fun l y=>match y with|.any m=>Nat.beq l m|_=>false)
  (fun l y=>match y with|.rng m=>Nat.beq l m|_=>false)
  (fun b=>aF b) (fun U U h t b=>List.rec false (fun y r U=>Bool.rec false (t r) (h y)) b)
  (fun b=>aF b) (fun U U h t b=>List.rec false (fun y r U=>Bool.rec false (t r) (h y)) b)
  (fun b=>aF b) (fun U U h t b=>List.rec false (fun y r U=>Bool.rec false (t r) (h y)) b)
  (fun x U h y=>seq x y.1&&h y.2) (fun x U h y=>co x y.1&&h y.2)
def pO(p q:Str×AV):Bool:=seq p.1 q.1&&cZ p.2 q.2
def Gr(p q:List Nat×AV):Bool:=co p.1 q.1&&cZ p.2 q.2
theorem Gd:∀ xs ys,cZ (.tup xs) (.tup ys)=fU cZ xs ys
 |[],_=>rfl
 |_::_,[]=>rfl
 |a::r,b::s=>congrArg (fun t=>Bool.rec (motive:=fun U=>Bool) false t (cZ a b)) (Gd r s)
theorem Gj:∀ xs ys,cZ (.obj 0 xs) (.obj 0 ys)=fU pO xs ys
 |[],_=>rfl
 |_::_,[]=>rfl
 |a::r,b::s=>congrArg (fun t=>Bool.rec (motive:=fun U=>Bool) false t (pO a b)) (Gj r s)
theorem Kl(C D:Addr)(xs ys:List (Str×AV)):cZ (.obj C xs) (.obj D ys)=Bool.rec (motive:=fun U=>Bool) false (fU pO xs ys) (Nat.beq C D):=by
 rw[←Gj];rfl
theorem F5:∀ xs ys,cZ (.dict xs) (.dict ys)=fU Gr xs ys
 |[],_=>rfl
 |_::_,[]=>rfl
 |a::r,b::s=>congrArg (fun t=>Bool.rec (motive:=fun U=>Bool) false t (Gr a b)) (F5 r s)
theorem fD:∀ x y,cZ x y=true→x=y:=by
 refine AV.ind ?_ ?_ ?_ ?_ ?_ ?_ ?_ ?_ ?_ ?_ ?_ ?_ ?_ ?_
 ·intro y h;induction y using AV.casesOn<;>first|rfl|injection h
 ·intro b y h;induction y using AV.casesOn<;>first|exact congrArg _ (sF h)|injection h
 ·intro b y h;induction y using AV.casesOn<;>first|exact congrArg _ (zp h)|injection h
 ·intro b y h;induction y using AV.casesOn<;>first|exact congrArg _ (GJ h)|injection h
 ·intro b y h;induction y using AV.casesOn<;>first|exact congrArg _ (bX h)|injection h
 ·intro xs ih y h;induction y using AV.casesOn<;>first|(rw[Gd] at h;exact congrArg _ (il ih h))|injection h
 ·intro C fs ih y h
  induction y using AV.casesOn with
  |obj D gs=>
   rw[Kl] at h;cases q:Nat.beq C D with
   |false=>rw[q] at h;injection h
   |true=>
    rw[q] at h;rw[bX q];refine congrArg _ (il (fun x hx y e=>?_) h);replace e:=aB e;exact Prod.ext (hU.mp e.1) (ih x hx y.2 e.2)
  |_=>injection h
 ·intro xs ih y h
  induction y using AV.casesOn with
  |dict ys=>
   rw[F5] at h;refine congrArg _ (il (fun x hx y e=>?_) h);replace e:=aB e;exact Prod.ext (gJ.mp e.1) (ih x hx y.2 e.2)
  |_=>injection h
 ·intro b y h;induction y using AV.casesOn<;>first|exact congrArg _ (bX h)|injection h
 ·intro b y h;induction y using AV.casesOn<;>first|exact congrArg _ (bX h)|injection h
 ·intro b y h;induction y using AV.casesOn<;>first|exact congrArg _ (Mp h)|injection h
 ·intro f v ih y h
  induction y using AV.casesOn with
  |meth g w=>
   cases q:Nat.beq f g with
   |false=>
    replace h:Bool.rec (motive:=fun U=>Bool) false _ (Nat.beq f g)=true:=h;rw[q] at h;injection h
   |true=>
    replace h:Bool.rec (motive:=fun U=>Bool) false (cZ v w) (Nat.beq f g)=true:=h;rw[q] at h;rw[bX q,ih w h]
  |_=>injection h
 ·intro b y h;induction y using AV.casesOn<;>first|exact congrArg _ (bX h)|injection h
 ·intro b y h;induction y using AV.casesOn<;>first|exact congrArg _ (bX h)|injection h
def Gl(c d:aw):Bool:=match c with
 |.list xs=>match d with|.list ys=>fU cZ xs ys|_=>false
 |.rows t n=>match d with|.rows u m=>yF t u&&qL n m|_=>false
 |.inst C fs=>match d with|.inst D gs=>Nat.beq C D&&fU pO fs gs|_=>false
 |.any i=>match d with|.any j=>Nat.beq i j|_=>false
def lG(a b:St):Bool:=fU Gl a b
theorem M4{c d:aw}(h:Gl c d=true):c=d:=by
 induction c using aw.casesOn with
 |list xs=>induction d using aw.casesOn with
  |list ys=>exact congrArg _ (il (fun x U=>fD x) h)
  |_=>injection h
 |rows t n=>induction d using aw.casesOn with
  |rows u m=>have h:=aB h;rw[GJ h.1,zp h.2]
  |_=>injection h
 |inst C fs=>induction d using aw.casesOn with
  |inst D gs=>
   replace h:=aB h;rw[bX h.1];refine congrArg _ (il (fun x U y e=>?_) h.2);replace e:=aB e;exact Prod.ext (hU.mp e.1) (fD _ _ e.2)
  |_=>injection h
 |any i=>induction d using aw.casesOn with
  |any j=>rw[bX h]
  |_=>injection h
theorem rN(h:lG a b=true):a=b:=il (fun U U U e=>M4 e) h
end
section
section
variable {Γ:ar}{n:Nat}
theorem bt.nil:bt Γ n (fun c=>execs [] c.env) ls σ .next ls σ:=by
 intro c A s m imm cs Q E C l R k;exact wpAny_execs_nil (k s.heap s.toks m imm cs _ R l (aH.refl ..) .next)
theorem bt.cons{st:Stmt}{r:List Stmt}{ls ls1 ls2:ac}{σ σ1 σ2:St}{f:Fl}(h1:bt Γ n (fun c=>exec st c.env) ls σ .next ls1 σ1)(h2:bt Γ n (fun c=>execs r c.env) ls1 σ1 f ls2 σ2):bt Γ n (fun c=>execs (st::r) c.env) ls σ f ls2 σ2:=by
 intro c A s m imm cs Q E C l Rp k;refine wpAny_execs_cons (h1 C l Rp fun hx tx mx ix cx fl Rx lx xx fx=>?_);(obtain e:_=_:=FR.inv fx;subst e);exact h2 C lx (s:={s with heap:=hx,toks:=tx}) Rx fun h2 t2 m2 i2 c2 fl R2 l2 x2 f2=>k h2 t2 m2 i2 c2 fl R2 l2 (xx.trans x2) f2
theorem bt.ret{st:Stmt}{r:List Stmt}{ls ls1:ac}{σ σ1:St}{v:AV}(h1:bt Γ n (fun c=>exec st c.env) ls σ (.ret v) ls1 σ1):bt Γ n (fun c=>execs (st::r) c.env) ls σ (.ret v) ls1 σ1:=by
 intro c A s m imm cs Q E C l Rp k;refine wpAny_execs_cons (h1 C l Rp fun hx tx mx ix cx fl Rx lx xx fx=>?_);obtain⟨_,e0,hv⟩:=FR.inv fx;clear fx;subst e0;exact k hx tx mx ix cx _ Rx lx xx (.ret hv)
theorem bt.pre{ls ls0 ls':ac}(hs:ls0.sc=ls.sc)(h:∀ x v,lk x ls.v=some v→lk x ls0.v=some v)(H:bt Γ n t ls σ f ls' σ'):bt Γ n t ls0 σ f ls' σ':=by
 intro c A s m imm cs Q E C l R k;exact H C ⟨hs▸l.sc,fun x v hx=>l.lo x v (h x v hx),l.nd⟩ ⟨R.F,R.N,R.nd,R.C,fun x v hx=>R.l x v (h x v hx)⟩ k
theorem bt.post{ls ls' ls1:ac}(hs:ls1.sc=ls.sc)(h:∀ x v,lk x ls1.v=some v→lk x ls'.v=some v)(H:bt Γ n t ls σ f ls' σ'):bt Γ n t ls σ f ls1 σ':=by
 intro c A s m imm cs Q E C l R k;exact H C l R fun h' tk m' imm' cs' fl R' l' x' f'=>k h' tk m' imm' cs' fl ⟨R'.F,R'.N,R'.nd,R'.C,fun x v hx=>R'.l x v (h x v hx)⟩ ⟨hs▸l.sc,fun x v hx=>l'.lo x v (h x v hx),l'.nd⟩ x' f'
theorem bt.le(hn:n'≤n)(H:bt Γ n' t ls σ f ls' σ'):bt Γ n t ls σ f ls' σ':=by
 intro c A s m imm cs Q E C;exact H (C.le hn)
theorem dr.le{α:Type}{n':Nat}{t:Cx→Sem α}{ls:ac}{σ σ':St}{P:List (Addr×Obj)→List CC→α→Prop}(hn:n'≤n)(H:dr Γ n' t ls σ P σ'):dr Γ n t ls σ P σ':=by
 intro c A s m imm cs Q E C;exact H (C.le hn)
noncomputable def kW(Γ:ar)(n:Nat)(t:Expr)(b:List Stmt)(ls:ac)(σ:St)(ls':ac)(σ':St):Prop :=
 ∀ {c A s m imm cs} {Rq:Result→Shared→Prop},bp Γ c A n→cK c ls→aj Γ c.h₀ c.L s.heap m ls.v σ imm cs →
  (∀ h' tk m' imm' cs' fl,aj Γ c.h₀ c.L h' m' ls'.v σ' imm' cs'→cK c ls'→aH imm cs imm' cs'→FR Γ imm' cs' fl .next→Rq (.ok fl) {s with heap:=h',toks:=tk})→codeAny (model Γ.prog Γ.w) A (.whileLoop t b [] c.env) Rq s
theorem kW.stop(h:dr Γ n (fun c=>isTrue t c.env (eval t c.env)) ls σ (ij false) σ'):kW Γ n t b ls σ ls σ':=by
 intro c A s m imm cs Rq C l R k;refine zi (h C l R fun hx tx ix cx x Rx xx qx=>?_);cases qx;exact wpAny_execs_nil (k hx tx m ix cx _ Rx l xx .next)
theorem kW.go(h:dr Γ n (fun c=>isTrue t c.env (eval t c.env)) ls σ (ij true) σ1)(hb:bt Γ n (fun c=>execs b c.env) ls σ1 .next ls1 σ2)(hr:kW Γ n t b ls1 σ2 ls2 σ3):kW Γ n t b ls σ ls2 σ3:=by
 intro c A s m imm cs Rq C l R k;refine zi (h C l R fun hx tx ix cx x Rx xx qx=>?_);cases qx;refine hb C l (s:={s with heap:=hx,toks:=tx}) Rx fun hy ty my iy cy fl Ry ly xy fy=>?_;(obtain e:_=_:=FR.inv fy;subst e);exact hr C ly (s:={s with heap:=hy,toks:=ty}) Ry fun h2 t2 m2 i2 c2 fl R2 l2 x2 f2=>k h2 t2 m2 i2 c2 fl R2 l2 (xx.trans (xy.trans x2)) f2
theorem bt.while_(h:kW Γ n t b ls σ ls' σ'):bt Γ n (fun c=>exec (.While t b [] pos) c.env) ls σ .next ls' σ':=by
 intro c A s m imm cs Q E C l Rp k;exact wpAny_While (h C l Rp k)
theorem bt.if_(h:dr Γ n (fun c=>isTrue t c.env (eval t c.env)) ls σ (ij q) σ1)(hb:bt Γ n (fun c=>execs (Bool.rec o b q) c.env) ls σ1 f ls' σ'):bt Γ n (fun c=>exec (.If t b o pos) c.env) ls σ f ls' σ':=by
 intro c A s m imm cs Q E C l Rp k;refine wpAny_If (h C l Rp fun hx tx ix cx x Rx xx qx=>?_);cases qx;induction q using oB with
 |true=>exact hb C l (s:={s with heap:=hx,toks:=tx}) Rx fun h2 t2 m2 i2 c2 fl R2 l2 x2 f2=>k h2 t2 m2 i2 c2 fl R2 l2 (xx.trans x2) f2
 |false=>exact hb C l (s:={s with heap:=hx,toks:=tx}) Rx fun h2 t2 m2 i2 c2 fl R2 l2 x2 f2=>k h2 t2 m2 i2 c2 fl R2 l2 (xx.trans x2) f2
theorem zI(a b:List Stmt)(env:Env):execs (a++b) env=execs a env >>= fun f=>match f with|.next=>execs b env|f=>pure f:=by
 induction a with
 |nil=>show execs b env=(pure Flow.next:Sem Flow) >>= _;rw[pure_bind]
 |cons s r ih=>
  rw[List.cons_append,execs_cons,execs_cons,bind_assoc]
  congr 1
  funext f
  cases f<;>first|exact ih|rw[pure_bind]
theorem bt.append(h1:bt Γ n (fun c=>execs a c.env) ls σ .next ls1 σ1)(h2:bt Γ n (fun c=>execs b c.env) ls1 σ1 f ls2 σ2):bt Γ n (fun c=>execs (a++b) c.env) ls σ f ls2 σ2:=by
 intro c A s m imm cs Q E C l R k;show wpAny _ _ (execs (a++b) c.env) _ _ _;rw[zI];refine wpAny_bind (h1 C l R fun hx tx mx ix cx fl Rx lx xx fx=>?_);(obtain e:_=_:=FR.inv fx;subst e);exact h2 C lx (s:={s with heap:=hx,toks:=tx}) Rx fun h2 t2 m2 i2 c2 fl R2 l2 x2 f2=>k h2 t2 m2 i2 c2 fl R2 l2 (xx.trans x2) f2
structure Dz (Γ:ar) (n:Nat) (t:Cx→Sem Flow) (ls:ac) (σ:St) (f:Fl) (ls':ac) (σ':St):Prop where
 h:bt Γ n t ls σ f ls' σ'
structure Tz (Γ:ar) (n:Nat) (e:Expr) (ls:ac) (σ:St) (b:Bool) (σ':St):Prop where
 h:dr Γ n (fun c=>isTrue e c.env (eval e c.env)) ls σ (ij b) σ'
structure Wz (Γ:ar) (n:Nat) (t:Expr) (b:List Stmt) (ls:ac) (σ:St) (ls':ac) (σ':St):Prop where
 h:kW Γ n t b ls σ ls' σ'
noncomputable abbrev aQ (Γ:ar) (n:Nat) (ss:List Stmt) (ls:ac) (σ:St) (f:Fl) (ls':ac) (σ':St):Prop:=Dz Γ n (fun c=>execs ss c.env) ls σ f ls' σ'
noncomputable abbrev kg (Γ:ar) (n:Nat) (s:Stmt) (ls:ac) (σ:St) (f:Fl) (ls':ac) (σ':St):Prop:=Dz Γ n (fun c=>exec s c.env) ls σ f ls' σ'
section
variable {ls ls1 ls2:ac}{σ σ1 σ2 σ3:St}{f:Fl}
theorem Dz.nil:aQ Γ n [] ls σ .next ls σ:=⟨bt.nil⟩
theorem Dz.cons{st:Stmt}{r:List Stmt}(h1:kg Γ n st ls σ .next ls1 σ1)(h2:aQ Γ n r ls1 σ1 f ls2 σ2):aQ Γ n (st::r) ls σ f ls2 σ2:=⟨bt.cons h1.h h2.h⟩
theorem Dz.one{st:Stmt}(h1:kg Γ n st ls σ .next ls1 σ1):aQ Γ n [st] ls σ .next ls1 σ1:=h1.cons .nil
theorem Dz.append(h1:aQ Γ n a ls σ .next ls1 σ1)(h2:aQ Γ n b ls1 σ1 f ls2 σ2):aQ Γ n (a++b) ls σ f ls2 σ2:=⟨bt.append h1.h h2.h⟩
theorem Dz.le(hn:n'≤n)(h:Dz Γ n' t ls σ f ls1 σ1):Dz Γ n t ls σ f ls1 σ1:=⟨bt.le hn h.h⟩
theorem Tz.le(hn:n'≤n)(h:Tz Γ n' e ls σ b σ1):Tz Γ n e ls σ b σ1:=⟨dr.le hn h.h⟩
theorem Dz.pre{ls0:ac}(hs:ls0.sc=ls.sc)(h:∀ x v,lk x ls.v=some v→lk x ls0.v=some v)(H:Dz Γ n t ls σ f ls1 σ1):Dz Γ n t ls0 σ f ls1 σ1:=⟨bt.pre hs h H.h⟩
theorem Dz.post{ls0:ac}(hs:ls0.sc=ls.sc)(h:∀ x v,lk x ls0.v=some v→lk x ls1.v=some v)(H:Dz Γ n t ls σ f ls1 σ1):Dz Γ n t ls σ f ls0 σ1:=⟨bt.post hs h H.h⟩
theorem Wz.stop(h:Tz Γ n t ls σ false σ1):Wz Γ n t b ls σ ls σ1:=⟨kW.stop h.h⟩
theorem Wz.go(h:Tz Γ n t ls σ true σ1)(hb:aQ Γ n b ls σ1 .next ls1 σ2)(hr:Wz Γ n t b ls1 σ2 ls2 σ3):Wz Γ n t b ls σ ls2 σ3:=⟨kW.go h.h hb.h hr.h⟩
theorem Dz.while_(h:Wz Γ n t b ls σ ls1 σ1):kg Γ n (.While t b [] pos) ls σ .next ls1 σ1:=⟨bt.while_ h.h⟩
theorem Dz.if_(h:Tz Γ n t ls σ q σ1)(hb:aQ Γ n (Bool.rec o b q) ls σ1 f ls1 σ2):kg Γ n (.If t b o pos) ls σ f ls1 σ2:=⟨bt.if_ h.h hb.h⟩
theorem Dz.ret{st:Stmt}{r:List Stmt}{v:AV}(h1:kg Γ n st ls σ (.ret v) ls1 σ1):aQ Γ n (st::r) ls σ (.ret v) ls1 σ1:=⟨bt.ret h1.h⟩
end
structure Rz (Γ:ar) (n:Nat) (σ:St) (f:Addr) (vs:List AV) (r:AV) (σ':St):Prop where
 h:cF Γ n σ f vs [] r σ'
end
end
section
noncomputable def I(i:Int):AV:=.int (.k i)
noncomputable def V(i:Nat):am:=⟨0,[(i,1)]⟩
noncomputable def ff:AV:=.bool false
noncomputable def tr:AV:=.bool true
def cM(a:Addr):oo:=match eD a gL with|some f=>f|none=>⟨[],[],[],[]⟩
def cX(β:Bd)(sp:Sp)(d:Nat):aR:=mk (l9 β sp) 300 d
noncomputable def ai(ε:Ev)(v:Nat→AV)(z:Nat→aw):eY:=⟨fun l=>.k (l.val ε),fun s=>.k (s.val ε),v,z,id⟩
theorem wU{Γ:ar}{ε:Ev}(hP:ε.P=Γ.ε.P)(he:ε.Ok)(hb:aM β ε)(v:Nat→AV)(z:Nat→aw):eJ Γ β ε (ai ε v z):=⟨hP,he,hb,fun U=>bV _,fun U=>db _,fun U U=>gG _⟩
def nF(fr:List Nat)(β:Bd)(L:List AV)(P:St):Bool:=L.all (kF β)&&((fX P).all (kF β)&&(l8 (jI (L++fX P)++fr)&&l8 (lP P)))
theorem w4(h:nF fr β L P=true)(hf:(fr.all fun i=>su (θ i))=true):nE fr β θ L P=true:=by
 unfold nF at h;unfold nE;simp only [Bool.and_eq_true] at h ⊢;exact⟨h.1,h.2.1,h.2.2.1,h.2.2.2,hf⟩
theorem rD:∀ {a:List (Str×AV)},lk x a=some v→lk x (a++b)=some v:=by
 intro L0;induction L0 with
 |nil=>
  intro h;injection h
 |cons x0 a ih=>
  obtain⟨y,w⟩:=x0;intro h;replace h:Bool.rec (motive:=fun U=>Option AV) (lk x a) (some w) (seq y x)=some v:=h;show Bool.rec (motive:=fun U=>Option AV) (lk x (a++b)) (some w) (seq y x)=some v;cases q:seq y x with
  |true=>rw[q] at h;exact h
  |false=>rw[q] at h;exact ih h
structure bO where
 β:Bd
 sp:Sp
 d:Nat
 fr:List Nat
 ls:ac
 P:St
 ss:List Stmt
 f:Fl
 k:Nat
 out:List (Str×AV)
 Q:St
def Iy(f g:Fl):Bool:=match f,g with
 |.next,.next=>true
 |.ret a,.ret b=>cZ a b
 |_,_=>false
theorem JB(h:Iy f g=true):f=g:=by
 induction f using Fl.casesOn<;>induction g using Fl.casesOn<;>first|rfl|(injection h;done)|exact congrArg Fl.ret (fD _ _ h)
def bO.chk(j:bO):Bool:=(match (cX j.β j.sp j.d).exs j.ls j.P j.ss with
 |some (f,ls,σ)=>Iy f j.f&&(fU pO (aP j.k ls.v) j.out&&lG σ j.Q)
 |none=>false)&&(ld j.ls.v&&(nF j.fr j.β (dc j.ls.v) j.P&&stays j.fr (dc j.ls.v) j.P (HF j.f++dc j.out) j.Q))
theorem Ma(y:Str×AV)(h:pO x y=true):x=y:=by
 obtain⟨a,u⟩:=x;obtain⟨b,w⟩:=y;replace h:=aB h;exact Prod.ext (hU.mp h.1) (fD _ _ h.2)
theorem HS{α:Type}(n:Nat)(l:List α):l=aP n l++bk n l:=by rw[mB,uh];exact(List.take_append_drop n l).symm
theorem sM{w:World}{ε0 ε:Ev}(hw:ε0.P=w.params)(hP:ε.P=ε0.P)(he:ε.Ok)(j:bO)(hb:aM j.β ε)(hs:∀ ov cv,ic j.fr v ov→ja (ab w mg mb (ε.wO ov cv)) b j.sp)
  (hf:(j.fr.all fun i=>su (v i))=true) (hc:j.chk=true) :
  aQ (ab w mg mb ε0) (10*j.d+b+30) j.ss (cC (ai ε v z) j.ls) (bC (ai ε v z) j.P) (fF (ai ε v z) j.f) (cC (ai ε v z) ⟨j.out,j.ls.sc⟩) (bC (ai ε v z) j.Q):=by
 have F:eJ (ab w mg mb ε0) j.β ε (ai ε v z):=wU hP he hb v z;replace hc:=aB hc;have c2:=aB hc.2;have c3:=aB c2.2;have c1:=hc.1;cases q:(cX j.β j.sp j.d).exs j.ls j.P j.ss with
 |none=>rw[q] at c1;injection c1
 |some p=>
  obtain⟨f,ls,σ⟩:=p;rw[q] at c1;replace c1:=aB c1;have c5:=aB c1.2;obtain rfl:f=j.f:=JB c1.1;have e1:aP j.k ls.v=j.out:=il (fun U U y h=>Ma y h) c5.1;obtain rfl:σ=j.Q:=rN c5.2;have H:∀ ov cv,ic j.fr v ov→bt ((ab w mg mb ε0).wE (ε.wO ov cv)) (10*j.d+b+30) (fun c=>execs j.ss c.env) j.ls j.P j.f ⟨j.out,j.ls.sc⟩ j.Q:=fun ov cv fk=>by
   have P':g8 ((ab w mg mb ε0).wE (ε.wO ov cv)) b (l9 j.β j.sp):=rM (ε:=ε.wO ov cv) (hP.trans hw) he hb (hs ov cv fk);have D0:bt ((ab w mg mb ε0).wE (ε.wO ov cv)) (10*j.d+b+30) (fun c=>execs j.ss c.env) j.ls j.P j.f ls j.Q:=(gu P' 300 j.d).S.exs q;have D1:bt ((ab w mg mb ε0).wE (ε.wO ov cv)) (10*j.d+b+30) (fun c=>execs j.ss c.env) j.ls j.P j.f ⟨j.out,j.ls.sc⟩ j.Q:=bt.post (ls:=j.ls) (ls1:=⟨j.out,j.ls.sc⟩) rfl (fun x u hx=>by rw[HS j.k ls.v,e1];exact rD hx) @D0;exact @D1
  have D:bt (ab w mg mb ε0) (10*j.d+b+30) (fun c=>execs j.ss c.env) (cC (ai ε v z) j.ls) (bC (ai ε v z) j.P) (fF (ai ε v z) j.f) (cC (ai ε v z) ⟨j.out,j.ls.sc⟩) (bC (ai ε v z) j.Q) :=
   bt.fill (fr:=j.fr) (n:=10*j.d+b+30) (t:=fun c=>execs j.ss c.env) (ls:=j.ls) (ls':=⟨j.out,j.ls.sc⟩) (P:=j.P) (P':=j.Q) (f:=j.f) F rfl c2.1 (w4 c3.1 hf) c3.2 fun ov cv fk=>@H ov cv fk
  exact⟨@D⟩
theorem ck{w:World}{ε0 ε:Ev}(hw:ε0.P=w.params)(hP:ε.P=ε0.P)(he:ε.Ok)(j:bO)(hb:aM j.β ε)(h0:j.sp=bj∧j.d≤12∧j.fr=[])(hc:j.chk=true) :
  aQ (ab w mg mb ε0) 150 j.ss (cC (ai ε v z) j.ls) (bC (ai ε v z) j.P) (fF (ai ε v z) j.f) (cC (ai ε v z) ⟨j.out,j.ls.sc⟩) (bC (ai ε v z) j.Q):=by
 apply d5 h0;intro h1 h2 h3;exact(sM (b:=0) hw hP he j hb (fun U U U=>by rw[h1];exact oN) (by rw[h3];rfl) hc).le (by lia)
structure nf where
 β:Bd
 ls:ac
 P:St
 e:Expr
 b:Bool
def nf.chk(j:nf):Bool:=(match (cX j.β bj 4).tst j.ls j.P j.e with
 |some (b,σ)=>pE b j.b&&lG σ j.P
 |none=>false)&&(ld j.ls.v&&(nF [] j.β (dc j.ls.v) j.P&&stays [] (dc j.ls.v) j.P (dc j.ls.v) j.P))
theorem t7{w:World}{ε0 ε:Ev}(hw:ε0.P=w.params)(hP:ε.P=ε0.P)(he:ε.Ok)(j:nf)(hb:aM j.β ε)(hc:j.chk=true) :
  Tz (ab w mg mb ε0) 150 j.e (cC (ai ε v z) j.ls) (bC (ai ε v z) j.P) j.b (bC (ai ε v z) j.P):=by
 have F:eJ (ab w mg mb ε0) j.β ε (ai ε v z):=wU hP he hb v z;replace hc:=aB hc;have c2:=aB hc.2;have c3:=aB c2.2;have c1:=hc.1;cases q:(cX j.β bj 4).tst j.ls j.P j.e with
 |none=>rw[q] at c1;injection c1
 |some p=>
  obtain⟨b,σ⟩:=p;rw[q] at c1;replace c1:=aB c1;obtain rfl:b=j.b:=sF c1.1;obtain rfl:σ=j.P:=rN c1.2;have H:∀ ov cv,ic [] v ov→dr ((ab w mg mb ε0).wE (ε.wO ov cv)) 70 (fun c=>isTrue j.e c.env (eval j.e c.env)) j.ls j.P (ij j.b) j.P:=fun ov cv U=>by
   have P':g8 ((ab w mg mb ε0).wE (ε.wO ov cv)) 0 (l9 j.β bj):=rM (ε:=ε.wO ov cv) (hP.trans hw) he hb oN;have D0:dr ((ab w mg mb ε0).wE (ε.wO ov cv)) 70 (fun c=>isTrue j.e c.env (eval j.e c.env)) j.ls j.P (ij j.b) j.P:=(gu P' 300 4).E.tst q;exact @D0
  have D:dr (ab w mg mb ε0) 70 (fun c=>isTrue j.e c.env (eval j.e c.env)) (cC (ai ε v z) j.ls) (bC (ai ε v z) j.P) (ij j.b) (bC (ai ε v z) j.P) :=
   dr.fillB (fr:=[]) (n:=70) (t:=fun c=>isTrue j.e c.env (eval j.e c.env)) (ls:=j.ls) (P:=j.P) (P':=j.P) (b:=j.b) F rfl c2.1 (w4 c3.1 rfl) c3.2 fun ov cv fk=>@H ov cv fk
  exact⟨dr.le (by decide) @D⟩
theorem b9.fill(F:eJ Γ β ε φ)(hc:φ.c=id){ls:ac}(nl:ld ls.v=true)(g:nE fr β φ.v (dc ls.v) P=true)(g':stays fr (dc ls.v) P (lv r++dc ls.v) P'=true)
  (H:∀ ov cv,ic fr φ.v ov→b9 (Γ.wE (ε.wO ov cv)) n t ls P r P'):b9 Γ n t (cC φ ls) (bC φ P) (flA φ r) (bC φ P'):=by
 intro c A s m imm cs Q E C l R k;apply sR (w0 F hc g (X:=fun ov cv=>mE (Γ.wE (ε.wO ov cv)) imm (ae cs) m ls.v) (AA F hc ls.v nl R.l) R.C);intro ov cv fo fk hl hcc;refine H ov cv fk C.wE l.down ⟨R.F,R.N,R.nd,hcc,hl⟩ fun h' tk imm' cs' x R' x' hx=>?_;apply aN ((fo.ext x').upL g' hc);intro u uc;exact k h' tk imm' cs' x ⟨R'.F,R'.N,R'.nd,bu.up F P' u.r uc R'.C,vP F u.l.r R'.l⟩ x' (VR.up F r _ u.l.l hx)
structure nX where
 β:Bd
 sp:Sp
 d:Nat
 fr:List Nat
 ls:ac
 P:St
 e:Expr
 r:AV
 Q:St
def nX.chk(j:nX):Bool:=(match (cX j.β j.sp j.d).ev j.ls j.P j.e with
 |some (r,σ)=>cZ r j.r&&lG σ j.Q
 |none=>false)&&(ld j.ls.v&&(nF j.fr j.β (dc j.ls.v) j.P&&stays j.fr (dc j.ls.v) j.P (lv j.r++dc j.ls.v) j.Q))
structure Yz (Γ:ar) (n:Nat) (e:Expr) (ls:ac) (σ:St) (v:AV) (σ':St):Prop where
 h:b9 Γ n (fun c=>eval e c.env) ls σ v σ'
theorem wW{w:World}{ε0 ε:Ev}(hw:ε0.P=w.params)(hP:ε.P=ε0.P)(he:ε.Ok)(j:nX)(hb:aM j.β ε)(hs:∀ ov cv,ic j.fr v ov→ja (ab w mg mb (ε.wO ov cv)) b j.sp)
  (hf:(j.fr.all fun i=>su (v i))=true) (hc:j.chk=true) :
  Yz (ab w mg mb ε0) (10*j.d+b+30) j.e (cC (ai ε v z) j.ls) (bC (ai ε v z) j.P) (flA (ai ε v z) j.r) (bC (ai ε v z) j.Q):=by
 have F:eJ (ab w mg mb ε0) j.β ε (ai ε v z):=wU hP he hb v z;replace hc:=aB hc;have c2:=aB hc.2;have c3:=aB c2.2;have c1:=hc.1;cases q:(cX j.β j.sp j.d).ev j.ls j.P j.e with
 |none=>rw[q] at c1;injection c1
 |some p=>
  obtain⟨r,σ⟩:=p;rw[q] at c1;replace c1:=aB c1;obtain rfl:r=j.r:=fD _ _ c1.1;obtain rfl:σ=j.Q:=rN c1.2;have H:∀ ov cv,ic j.fr v ov→b9 ((ab w mg mb ε0).wE (ε.wO ov cv)) (10*j.d+b+30) (fun c=>eval j.e c.env) j.ls j.P j.r j.Q:=fun ov cv fk=>by
   have P':g8 ((ab w mg mb ε0).wE (ε.wO ov cv)) b (l9 j.β j.sp):=rM (ε:=ε.wO ov cv) (hP.trans hw) he hb (hs ov cv fk);have D0:b9 ((ab w mg mb ε0).wE (ε.wO ov cv)) (10*j.d+b+30) (fun c=>eval j.e c.env) j.ls j.P j.r j.Q:=(gu P' 300 j.d).E.ev q;exact @D0
  have D:b9 (ab w mg mb ε0) (10*j.d+b+30) (fun c=>eval j.e c.env) (cC (ai ε v z) j.ls) (bC (ai ε v z) j.P) (flA (ai ε v z) j.r) (bC (ai ε v z) j.Q) :=
   b9.fill (fr:=j.fr) F rfl c2.1 (w4 c3.1 hf) c3.2 fun ov cv fk=>@H ov cv fk
  exact⟨@D⟩
structure kN where
 β:Bd
 sp:Sp
 d:Nat
 fr:List Nat
 P:St
 f:Addr
 vs:List AV
 r:AV
 Q:St
def kN.chk(j:kN):Bool:=(match (cX j.β j.sp j.d).cf j.P j.f j.vs [] with
 |some (r,σ)=>cZ r j.r&&lG σ j.Q
 |none=>false)&&(nF j.fr j.β (hH j.vs) j.P&&stays j.fr (hH j.vs) j.P (lv j.r) j.Q)
theorem HP{w:World}{ε0 ε:Ev}(hw:ε0.P=w.params)(hP:ε.P=ε0.P)(he:ε.Ok)(j:kN)(hb:aM j.β ε)(hs:∀ ov cv,ic j.fr v ov→ja (ab w mg mb (ε.wO ov cv)) b j.sp)
  (hf:(j.fr.all fun i=>su (v i))=true) (hc:j.chk=true) :
  fnIn (cE w.params) j.f=true∧Rz (ab w mg mb ε0) (10*j.d+b+25) (bC (ai ε v z) j.P) j.f (aO (ai ε v z) j.vs) (flA (ai ε v z) j.r) (bC (ai ε v z) j.Q):=by
 have F:eJ (ab w mg mb ε0) j.β ε (ai ε v z):=wU hP he hb v z;replace hc:=aB hc;have c3:=aB hc.2;have c1:=hc.1;cases q:(cX j.β j.sp j.d).cf j.P j.f j.vs [] with
 |none=>rw[q] at c1;injection c1
 |some p=>
  obtain⟨r,σ⟩:=p;rw[q] at c1;replace c1:=aB c1;obtain rfl:r=j.r:=fD _ _ c1.1;obtain rfl:σ=j.Q:=rN c1.2;have H:∀ ov cv,ic j.fr v ov→fnIn (cE w.params) j.f=true∧cF ((ab w mg mb ε0).wE (ε.wO ov cv)) (10*j.d+b+25) j.P j.f j.vs [] j.r j.Q:=fun ov cv fk=>by
   have P':g8 ((ab w mg mb ε0).wE (ε.wO ov cv)) b (l9 j.β j.sp):=rM (ε:=ε.wO ov cv) (hP.trans hw) he hb (hs ov cv fk);exact(gu P' 300 j.d).cf q
  refine⟨(H (fun i=>r6 (v i)) ε0.cv fun i hi=>?_).1,?_⟩
  ·have h1:=aq hf i hi
   dsimp only at h1 ⊢;cases q2:v i with
   |bool b=>exact⟨b,rfl,rfl⟩
   |_=>rw[q2] at h1;injection h1
  ·have R:cF (ab w mg mb ε0) (10*j.d+b+25) (bC (ai ε v z) j.P) j.f (aO (ai ε v z) j.vs) [] (flA (ai ε v z) j.r) (bC (ai ε v z) j.Q) :=
    cF.fill (fr:=j.fr) F rfl (w4 c3.1 hf) c3.2 fun ov cv fk=>(H ov cv fk).2
   exact⟨@R⟩
def eA(P:Params)(pre post:List Nat):Ev:=⟨(tn 0 [0,0,0,0,0,pre.length,0,post.length]),(tn [] [[],[],pre,post]),P,fun U=>.none,fun U=>.list 0 [] 0⟩
theorem j8(P:Params)(pre post:List Nat):(eA P pre post).Ok:=fun i=>match i with
 |0=>rfl
 |1=>rfl
 |2=>rfl
 |3=>rfl
 |_+4=>rfl
end
section
structure wa where
 t:Expr
 b:List Stmt
 p:Pos
def xY(l:List Stmt)(i:Nat):wa:=match ak l i with|some (.While t b _ p)=>⟨t,b,p⟩|_=>⟨.Constant .none 0 default,[],default⟩
def dC:List Stmt:=(cM 629).body
def bh:List (Str×NameKind):=(cM 629).sc
def dR:wa:=xY dC 17
def eF(x:Nat→AV):aw:=.inst 736 [(wu,x 0),(qV,x 1),(BH,x 2),(zW,x 3),(xd,x 4),(iO,x 5),(yz,x 6),(sC,x 7),(yH,x 8),
 (zT,x 9),(AZ,x 10),(BB,x 11),(y8,x 12),(yK,x 13),(Bn,x 14),(v0,x 15),(vf,x 16),(yC,x 17),(ve,x 18),(w2,x 19),(zb,x 20),(yq,x 21),(An,x 22),
 (A4,x 23),(yy,x 24),(A3,x 25),(BG,x 26),(pG,x 27)]
def aS(c:Nat→aw)(x:Nat→AV):St:=[c 0,c 1,c 2,c 3,c 4,eF x,c 6,c 7,c 8,c 9]
def xG(k:Nat)(a:AV):Nat→AV:=fun i=>Bool.rec (.any (30+i)) a (Nat.beq i k)
noncomputable def zL:Nat→aw:=fun i=>.any i
def iQ(sc ix:AV)(f:Nat→AV)(pw fw ps pb:AV):List (Str×AV):=[(aJ,.cell 5),(iw,sc),(EZ,f 0),(B9,f 1),(Ja,f 2),(D7,f 3),(IN,f 4),(EJ,f 5),(Gc,f 6),(C3,f 7),(B5,f 8),(Cs,f 9),(KQ,pw),(Tk,fw),(LU,ps),(MY,pb),(QP,ix)]
noncomputable def aZ:List Nat:=[97,98,99,100,101,102,103,104,105,106,107,108,109,115,116,32,35,58,45,39,34,233,9,92,10,8232]
def aC(c:Nat):Bool:=aK c [10,133,8232,8233]
def jB(c:Nat):Bool:=aK c [0,32,9,13,10,133,8232,8233]
def eg(c:Nat):Bool:=aK c [133,233,8232]
noncomputable def tC(c:Nat):Bool:=Nat.beq c 10 ||(Nat.ble 32 c&&Nat.ble c 126)
def jd(u first last:Bool)(c:Nat)(pw fw ps pb:Bool)(k:Nat):Bool:=match k with
 |0=>Bool.rec ((Nat.beq c 58&&fw) ||(Nat.beq c 35&&pw)) (aK c [35,44,91,93,123,125,38,42,33,124,62,39,34,37,64,96] ||((aK c [63,58,45])&&fw)) first
 |1=>Bool.rec (aK c [44,63,91,93,123,125,58] ||(Nat.beq c 35&&pw)) (aK c [35,44,91,93,123,125,38,42,33,124,62,39,34,37,64,96,63,58] ||(Nat.beq c 45&&fw)) first
 |2=>aC c
 |3=>!tC c&&!(eg c&&u)
 |4=>Nat.beq c 32&&first
 |5=>aC c&&first
 |6=>Nat.beq c 32&&last
 |7=>aC c&&last
 |8=>Nat.beq c 32&&pb
 |9=>aC c&&ps
 |_=>false
def bA(rel b:Bool)(i:Nat):AV:=Bool.rec (.any i) (.bool b) rel
def yw(first last:Bool)(c:Nat):SS:=Bool.rec (.var 2::.lit [c]::Bool.rec [.var 3] [] last) (.lit [c]::Bool.rec [.var 3] [] last) first
def Bf(first:Bool)(d:Int):AV:=.int (Bool.rec ⟨d,[(5,1)]⟩ (.k d) first)
def βA(first last:Bool):Bd:=[(0,0),(0,0),(0,0),(0,0),(0,0),Bool.rec (1,400) (0,0) first,(0,0),Bool.rec (1,400) (0,0) last]
def mK(u first last:Bool)(c:Nat)(pw fw ps pb:Bool):bO where
 β:=βA first last
 sp:=bj
 d:=0
 fr:=[]
 f:=.next
 ls:=⟨iQ (.str (yw first last c)) (Bf first 0) (fun k=>.any k) (bA (Nat.beq c 35) pw 10) (bA (aK c [58,45]) fw 11) (bA (aC c) ps 12) (bA (Nat.beq c 32) pb 13),bh⟩
 P:=aS zL (xG 19 (bA (eg c) u 14))
 ss:=aP 7 dR.b
 k:=17
 out:=iQ (.str (yw first last c)) (Bf first 1) (fun k=>Bool.rec (.any k) tr (jd u first last c pw fw ps pb k)) (.bool (jB c)) (bA (aK c [58,45]) fw 11) (.bool (Nat.beq c 32)) (.bool (aC c))
 Q:=aS zL (xG 19 (bA (eg c) u 14))
noncomputable def tf:List Bool:=[true,false]
def km(r:Bool):List Bool:=Bool.rec [false] tf r
def Lu:Bool:=aZ.all fun c=>tf.all fun first=>tf.all fun last=>(km (eg c)).all fun u=>(km (Nat.beq c 35)).all fun pw=>(km (aK c [58,45])).all fun fw=>(km (aC c)).all fun ps=>(km (Nat.beq c 32)).all fun pb=>(mK u first last c pw fw ps pb).chk
theorem Kp:Lu=true:=by kernel_rfl
noncomputable def jN(d:Int):AV:=.int ⟨d,[(5,1)]⟩
def mA(txt:SS)(ix:AV)(β:Bd)(b:Bool):bO where
 β:=β
 sp:=bj
 d:=0
 fr:=[]
 f:=.next
 ls:=⟨iQ (.str txt) ix (fun k=>.any k) (.any 10) (.any 11) (.any 12) (.any 13),bh⟩
 P:=aS zL (xG 19 (.any 14))
 ss:=bk 7 dR.b
 k:=17
 out:=iQ (.str txt) ix (fun k=>.any k) (.any 10) (.bool b) (.any 12) (.any 13)
 Q:=aS zL (xG 19 (.any 14))
theorem JX:(aZ.all fun d=>(tf.all fun last=>(mA (.var 2::.lit [d]::Bool.rec [.var 3] [] last) (jN (-1)) (βA false last) (jB d)).chk))=true:=by kernel_rfl
theorem L8:((mA [.var 2] (jN (-1)) (βA false true) true).chk&&(mA [.var 2] (jN 0) (βA false true) true).chk)=true:=by kernel_rfl
def tF(txt:SS)(β:Bd)(b:Bool):nf where
 β:=β
 ls:=⟨iQ (.str txt) (jN 0) (fun k=>.any k) (.any 10) (.any 11) (.any 12) (.any 13),bh⟩
 P:=aS zL (xG 19 (.any 14))
 e:=dR.t
 b:=b
noncomputable def βT(a b:Int):Bd:=[(0,0),(0,0),(0,0),(0,0),(0,0),(0,a),(0,0),(b,400)]
theorem H5:((tF [.var 2,.var 3] (βT 400 1) true).chk&&(tF [.var 2] (βT 400 0) false).chk)=true:=by kernel_rfl
end
section
section
def lsC(v:List Nat)(i:Int)(F:Nat→Bool)(pw fw ps pb:Bool):List (Str×AV):=iQ (.str (.k v)) (I i) (fun k=>.bool (F k)) (.bool pw) (.bool fw) (.bool ps) (.bool pb)
def vA(F:Nat→Bool)(pw fw ps pb:Bool)(x:Nat→AV):Nat→AV:=fun i=>Bool.rec (tO (fun k=>.bool (F k)) 10 [some (.bool pw),some (.bool fw),some (.bool ps),some (.bool pb),some (x 19)] i) (x (i-30)) (Nat.ble 30 i)
theorem nW(ha:a=a')(hb:b=b')(hf:∀ k,k<10→f k=f' k)(hp:p=p')(hq:q=q')(hr:r=r')(hs:s=s'):iQ a b f p q r s=iQ a' b' f' p' q' r' s':=by
 subst ha;subst hb;subst hp;subst hq;subst hr;subst hs;unfold iQ;rw[hf 0 (by decide),hf 1 (by decide),hf 2 (by decide),hf 3 (by decide),hf 4 (by decide),hf 5 (by decide),hf 6 (by decide),hf 7 (by decide),hf 8 (by decide),hf 9 (by decide)]
variable {ε:Ev}{F:Nat→Bool}{pw fw ps pb u:Bool}{z:Nat→aw}{x:Nat→AV}
theorem SI(r:Bool)(hx:x 19=.bool u):bC (ai ε (vA F pw fw ps pb x) z) (aS zL (xG 19 (bA r (r&&u) 14)))=aS z x:=by
 cases r with
 |false=>rfl
 |true=>unfold aS eF;rw[hx];rfl
theorem sb(hk:k<10):flA (ai ε (vA F pw fw ps pb x) z) (.any k)=.bool (F k):=by
 show (Bool.rec (tO _ 10 _ k) _ (Nat.ble 30 k):AV)=_;rw[pn (Nat.lt_trans hk (by decide:10<30))];exact Mt hk
theorem J0(hk:k<10)(b:Bool):flA (ai ε (vA F pw fw ps pb x) z) (Bool.rec (.any k) tr b)=.bool (b ||F k):=by
 cases b with
 |false=>exact sb hk
 |true=>rfl
def Tq:Bool:=aZ.all fun c=>tf.all fun u=>tf.all fun first=>tf.all fun last=>tf.all fun pw=>tf.all fun fw=>tf.all fun ps=>tf.all fun pb=>[0,1,2,3,4,5,6,7,8,9].all fun k=>
 pE (jd (eg c&&u) first last c (Nat.beq c 35&&pw) (aK c [58,45]&&fw) (aC c&&ps) (Nat.beq c 32&&pb) k) (jd u first last c pw fw ps pb k)
theorem LT:Tq=true:=by kernel_rfl
theorem cU(b:Bool):b∈tf:=by cases b<;>simp [tf]
theorem tU(r b:Bool):(r&&b)∈km r:=by cases r<;>cases b<;>simp [km,tf]
theorem K7(hc:c∈aZ)(first last:Bool)(hk:k<10):jd (eg c&&u) first last c (Nat.beq c 35&&pw) (aK c [58,45]&&fw) (aC c&&ps) (Nat.beq c 32&&pb) k=jd u first last c pw fw ps pb k:=by
 have h:=aq LT c hc;replace h:=aq h u (cU _);replace h:=aq h first (cU _)
 replace h:=aq h last (cU _);replace h:=aq h pw (cU _);replace h:=aq h fw (cU _);replace h:=aq h ps (cU _);replace h:=aq h pb (cU _);exact sF (aq h k (show k∈List.range 10 from eU hk))
theorem PO(hc:c∈aZ)(first last:Bool):(mK (eg c&&u) first last c (Nat.beq c 35&&pw) (aK c [58,45]&&fw) (aC c&&ps) (Nat.beq c 32&&pb)).chk=true:=by
 have h:=aq Kp c hc;replace h:=aq h first (cU _)
 replace h:=aq h last (cU _);replace h:=aq h _ (tU (eg c) u);replace h:=aq h _ (tU (Nat.beq c 35) pw);replace h:=aq h _ (tU (aK c [58,45]) fw);replace h:=aq h _ (tU (aC c) ps);exact aq h _ (tU (Nat.beq c 32) pb)
theorem tK(r b:Bool)(h:flA (ai ε (vA F pw fw ps pb x) z) (.any i)=.bool b):flA (ai ε (vA F pw fw ps pb x) z) (bA r (r&&b) i)=.bool b:=by
 cases r with
 |false=>exact h
 |true=>rfl
theorem s9{α:Type}{a b c d x:α}:tn x [a,b,c,d] 2=c:=rfl
theorem ud{α:Type}{a b c d x:α}:tn x [a,b,c,d] 3=d:=rfl
theorem FM(P:Params)(pre post:List Nat)(c:Nat):(yw (aF pre) (aF post) c).val (eA P pre post)=pre++c::post:=by
 cases pre<;>cases post<;>first|rfl|exact congrArg (c::·) (af _)|exact congrArg (fun l=>(_::_)++c::l) (af _)
theorem zC(P:Params)(pre post:List Nat)(d:Int):(⟨d,[(5,1)]⟩ : am).val (eA P pre post)=pre.length+d:=by
 show d+(1*(pre.length:Int)+0)=_;lia
theorem DY(P:Params)(pre post:List Nat)(d:Int):flA (ai (eA P pre post) (vA F pw fw ps pb x) z) (Bf (aF pre) d)=I (pre.length+d):=by
 cases pre with
 |nil=>show AV.int (.k ((am.k d).val _))=_;rw[bV];show I d=I (((0:Nat):Int)+d);congr 1;lia
 |cons a r=>show AV.int (.k ((⟨d,[(5,1)]⟩ : am).val _))=_;rw[zC];rfl
theorem mI(P:Params){pre post:List Nat}(h:pre.length≤400∧post.length≤400):aM (βA (aF pre) (aF post)) (eA P pre post):=by
 intro i p hp;have z0:∀ {q:Int×Int},some ((0:Int),(0:Int))=some q→q.1≤0∧(0:Int)≤q.2:=fun h=>by (apply j1 h;clear h;rintro rfl);exact⟨bz _,bz _⟩
 match i with
 |0=>exact z0 hp
 |1=>exact z0 hp
 |2=>exact z0 hp
 |3=>exact z0 hp
 |4=>exact z0 hp
 |5=>cases pre with
  |nil=>exact z0 hp
  |cons a r=>(apply j1 hp;clear hp;rintro rfl);have:=h.1;rw[bb] at this;exact⟨by show (1:Int)≤((a::r).length:Int);rw[bb];lia,by show ((a::r).length:Int)≤400;rw[bb];lia⟩
 |6=>exact z0 hp
 |7=>cases post with
  |nil=>exact z0 hp
  |cons a r=>(apply j1 hp;clear hp;rintro rfl);have:=h.2;rw[bb] at this;exact⟨by show (1:Int)≤((a::r).length:Int);rw[bb];lia,by show ((a::r).length:Int)≤400;rw[bb];lia⟩
 |i+8=>injection hp
variable {w:World}{mg mb:Str→Option Value}{ε0:Ev}
theorem PW(hw:ε0.P=w.params)(hx:x 19=.bool u){pre post:List Nat}(hc:c∈aZ)(hl:pre.length≤400∧post.length≤400) :
  aQ (ab w mg mb ε0) 150 (aP 7 dR.b) ⟨lsC (pre++c::post) pre.length F pw fw ps pb,bh⟩ (aS z x) .next
   ⟨lsC (pre++c::post) (pre.length+1) (fun k=>jd u (aF pre) (aF post) c pw fw ps pb k ||F k) (jB c) fw (Nat.beq c 32) (aC c),bh⟩ (aS z x):=by
 have D:aQ (ab w mg mb ε0) 150 (aP 7 dR.b) _ _ .next _ _ :=
  ck (mg:=mg) (mb:=mb) (v:=vA F pw fw ps pb x) (z:=z) hw (ε:=eA ε0.P pre post) rfl (j8 ε0.P pre post) (mK (eg c&&u) (aF pre) (aF post) c (Nat.beq c 35&&pw) (aK c [58,45]&&fw) (aC c&&ps) (Nat.beq c 32&&pb)) (mI _ hl) ⟨rfl,Nat.zero_le _,rfl⟩ (PO hc _ _)
 have e1:cC (ai (eA ε0.P pre post) (vA F pw fw ps pb x) z) (mK (eg c&&u) (aF pre) (aF post) c (Nat.beq c 35&&pw) (aK c [58,45]&&fw) (aC c&&ps) (Nat.beq c 32&&pb)).ls=⟨lsC (pre++c::post) pre.length F pw fw ps pb,bh⟩ :=
  congrArg (fun l=>(⟨l,bh⟩ : ac)) (nW (congrArg (fun t=>AV.str (.k t)) (FM _ _ _ _)) ((DY _ _ _ _).trans (congrArg I (aY _))) (fun k hk=>sb hk) (tK _ _ rfl) (tK _ _ rfl) (tK _ _ rfl) (tK _ _ rfl))
 have e2:cC (ai (eA ε0.P pre post) (vA F pw fw ps pb x) z) ⟨(mK (eg c&&u) (aF pre) (aF post) c (Nat.beq c 35&&pw) (aK c [58,45]&&fw) (aC c&&ps) (Nat.beq c 32&&pb)).out,bh⟩=⟨lsC (pre++c::post) (pre.length+1) (fun k=>jd u (aF pre) (aF post) c pw fw ps pb k ||F k) (jB c) fw (Nat.beq c 32) (aC c),bh⟩ :=
  congrArg (fun l=>(⟨l,bh⟩ : ac)) (nW (congrArg (fun t=>AV.str (.k t)) (FM _ _ _ _)) (DY _ _ _ _) (fun k hk=>(J0 hk _).trans (by rw[K7 hc _ _ hk])) rfl (tK _ _ rfl) rfl rfl)
 have e3:=SI (ε:=eA ε0.P pre post) (F:=F) (pw:=pw) (fw:=fw) (ps:=ps) (pb:=pb) (z:=z) (eg c) hx;rw[show (mK (eg c&&u) (aF pre) (aF post) c (Nat.beq c 35&&pw) (aK c [58,45]&&fw) (aC c&&ps) (Nat.beq c 32&&pb)).ls.sc=bh from rfl,e1,e2] at D;rw[show (mK (eg c&&u) (aF pre) (aF post) c (Nat.beq c 35&&pw) (aK c [58,45]&&fw) (aC c&&ps) (Nat.beq c 32&&pb)).P=aS zL (xG 19 (bA (eg c) (eg c&&u) 14)) from rfl,show (mK (eg c&&u) (aF pre) (aF post) c (Nat.beq c 35&&pw) (aK c [58,45]&&fw) (aC c&&ps) (Nat.beq c 32&&pb)).Q=aS zL (xG 19 (bA (eg c) (eg c&&u) 14)) from rfl,e3] at D;exact D
end
end
section
section
variable {ε:Ev}{F:Nat→Bool}{pw fw ps pb u:Bool}{z:Nat→aw}{x:Nat→AV}{w:World}{mg mb:Str→Option Value}{ε0:Ev}
def fI(l:List Nat):Bool:=match l with|_::d::_=>jB d|_=>true
theorem y6(hw:ε0.P=w.params)(hb:aM β (eA ε0.P pre post))(hc:(mA txt (jN d) β b).chk=true)(hv:txt.val (eA ε0.P pre post)=v)(hi:pre.length+d=i) :
  aQ (ab w mg mb ε0) 150 (bk 7 dR.b) ⟨lsC v i F pw fw ps pb,bh⟩ (aS z x) .next ⟨lsC v i F pw b ps pb,bh⟩ (aS z x):=by
 have D:aQ (ab w mg mb ε0) 150 (bk 7 dR.b) _ _ .next _ _ :=
  ck (mg:=mg) (mb:=mb) (v:=vA F pw fw ps pb x) (z:=z) hw (ε:=eA ε0.P pre post) rfl (j8 ε0.P pre post) (mA txt (jN d) β b) hb ⟨rfl,Nat.zero_le _,rfl⟩ hc
 have ei:flA (ai (eA ε0.P pre post) (vA F pw fw ps pb x) z) (jN d)=I i:=by show AV.int (.k ((⟨d,[(5,1)]⟩ : am).val _))=_;rw[zC,hi];rfl
 have e1:cC (ai (eA ε0.P pre post) (vA F pw fw ps pb x) z) (mA txt (jN d) β b).ls=⟨lsC v i F pw fw ps pb,bh⟩ :=
  congrArg (fun l=>(⟨l,bh⟩ : ac)) (nW (congrArg (fun t=>AV.str (.k t)) hv) ei (fun k hk=>sb hk) rfl rfl rfl rfl)
 have e2:cC (ai (eA ε0.P pre post) (vA F pw fw ps pb x) z) ⟨(mA txt (jN d) β b).out,bh⟩=⟨lsC v i F pw b ps pb,bh⟩ :=
  congrArg (fun l=>(⟨l,bh⟩ : ac)) (nW (congrArg (fun t=>AV.str (.k t)) hv) ei (fun k hk=>sb hk) rfl rfl rfl rfl)
 rw[show (mA txt (jN d) β b).ls.sc=bh from rfl,e1,e2] at D;exact D
theorem Pz(hw:ε0.P=w.params){pre rest:List Nat}(hr:∀ c∈rest,c∈aZ)(hp:1≤pre.length)(hl:pre.length+rest.length≤400) :
  aQ (ab w mg mb ε0) 150 (bk 7 dR.b) ⟨lsC (pre++rest) pre.length F pw fw ps pb,bh⟩ (aS z x) .next ⟨lsC (pre++rest) pre.length F pw (fI rest) ps pb,bh⟩ (aS z x):=by
 have f2:=aB L8;have nn:∀ {l:List Nat},1≤l.length→aF l=false:=fun {l} h=>by cases l with|nil=>exact absurd h (by decide)|cons=>rfl
 match rest,hr,hl with
 |[],_,hl=>
  have hb:=mI ε0.P (post:=[]) ⟨by simpa using hl,by decide⟩;rw[nn hp] at hb;have D:aQ (ab w mg mb ε0) 150 (bk 7 dR.b) _ _ .next _ _:=y6 (mg:=mg) (mb:=mb) (F:=F) (pw:=pw) (fw:=fw) (ps:=ps) (pb:=pb) (z:=z) (x:=x) (v:=pre++[]) (i:=pre.length) hw (pre:=pre) (post:=[]) hb f2.2 (by simp [SS.val,Pc.val,eA,s9,ud]) (aY _);exact D
 |[e],_,hl=>
  have hl':(pre++[e]).length≤400:=by rw[ax];exact hl
  have hb:=mI ε0.P (pre:=pre++[e]) (post:=[]) ⟨hl',by decide⟩;rw[nn (by rw[ax];simp)] at hb;have D:aQ (ab w mg mb ε0) 150 (bk 7 dR.b) _ _ .next _ _:=y6 (mg:=mg) (mb:=mb) (F:=F) (pw:=pw) (fw:=fw) (ps:=ps) (pb:=pb) (z:=z) (x:=x) (v:=pre++[e]) (i:=pre.length) hw (pre:=pre++[e]) (post:=[]) hb f2.1 (by simp [SS.val,Pc.val,eA,s9,ud]) (by rw[ax];show ((pre.length+1:Nat):Int)+-1=_;lia);exact D
 |e::d::t,hr,hl=>
  have hl':(pre++[e]).length≤400:=by rw[ax];show pre.length+1≤400;have:=hl;simp only [bb] at this;lia
  have hb:=mI ε0.P (pre:=pre++[e]) (post:=t) ⟨hl',by have:=hl;simp only [bb] at this;lia⟩;rw[nn (by rw[ax];simp)] at hb;have h:=aq JX d (hr d (.tail _ (.head _)));replace h:=aq h (aF t) (cU _);have D:aQ (ab w mg mb ε0) 150 (bk 7 dR.b) _ _ .next _ _:=y6 (mg:=mg) (mb:=mb) (F:=F) (pw:=pw) (fw:=fw) (ps:=ps) (pb:=pb) (z:=z) (x:=x) (v:=pre++e::d::t) (i:=pre.length) hw (pre:=pre++[e]) (post:=t) hb h (by cases t<;>simp [aF,SS.val,Pc.val,eA,s9,ud]) (by rw[ax];show ((pre.length+1:Nat):Int)+-1=_;lia);exact D
theorem C9(P:Params){pre post:List Nat}{a b:Int}(h1:(pre.length:Int)≤a)(h2:b≤post.length)(h3:post.length≤400):aM (βT a b) (eA P pre post):=by
 intro i p hp;have z0:∀ {q:Int×Int},some ((0:Int),(0:Int))=some q→q.1≤0∧(0:Int)≤q.2:=fun h=>by (apply j1 h;clear h;rintro rfl);exact⟨bz _,bz _⟩
 match i with
 |0=>exact z0 hp
 |1=>exact z0 hp
 |2=>exact z0 hp
 |3=>exact z0 hp
 |4=>exact z0 hp
 |5=>(apply j1 hp;clear hp;rintro rfl);exact⟨bK _,h1⟩
 |6=>exact z0 hp
 |7=>(apply j1 hp;clear hp;rintro rfl);exact⟨h2,by show ((post.length:Nat):Int)≤400;lia⟩
 |i+8=>injection hp
theorem H2(hw:ε0.P=w.params){pre post v:List Nat}{txt:SS}(hb:aM β (eA ε0.P pre post))(hc:(tF txt β b).chk=true)(hv:txt.val (eA ε0.P pre post)=v) :
  Tz (ab w mg mb ε0) 150 dR.t ⟨lsC v pre.length F pw fw ps pb,bh⟩ (aS z x) b (aS z x):=by
 have D:Tz (ab w mg mb ε0) 150 dR.t _ _ b _ :=
  t7 (mg:=mg) (mb:=mb) (v:=vA F pw fw ps pb x) (z:=z) hw (ε:=eA ε0.P pre post) rfl (j8 ε0.P pre post) (tF txt β b) hb hc
 have ei:flA (ai (eA ε0.P pre post) (vA F pw fw ps pb x) z) (jN 0)=I pre.length:=by show AV.int (.k ((⟨0,[(5,1)]⟩ : am).val _))=_;rw[zC,aY];rfl
 have e1:cC (ai (eA ε0.P pre post) (vA F pw fw ps pb x) z) (tF txt β b).ls=⟨lsC v pre.length F pw fw ps pb,bh⟩ :=
  congrArg (fun l=>(⟨l,bh⟩ : ac)) (nW (congrArg (fun t=>AV.str (.k t)) hv) ei (fun k hk=>sb hk) rfl rfl rfl rfl)
 rw[e1] at D;exact D
noncomputable def j5(u:Bool):List Nat→Bool→(Nat→Bool)→Bool→Bool→Bool→(Nat→Bool)×Bool×Bool×Bool
 |[],_,F,pw,ps,pb=>(F,pw,ps,pb)
 |c::r,first,F,pw,ps,pb=>j5 u r false (fun k=>jd u first (aF r) c pw (fI (c::r)) ps pb k ||F k) (jB c) (Nat.beq c 32) (aC c)
theorem QX(hw:ε0.P=w.params)(hx:x 19=.bool u):∀ (post pre:List Nat) (F:Nat→Bool) (pw ps pb:Bool),(∀ c∈post,c∈aZ)→pre.length+post.length≤400 →
  Wz (ab w mg mb ε0) 150 dR.t dR.b ⟨lsC (pre++post) pre.length F pw (fI post) ps pb,bh⟩ (aS z x)
   ⟨lsC (pre++post) (pre++post).length (j5 u post (aF pre) F pw ps pb).1 (j5 u post (aF pre) F pw ps pb).2.1 true (j5 u post (aF pre) F pw ps pb).2.2.1 (j5 u post (aF pre) F pw ps pb).2.2.2,bh⟩ (aS z x):=by
 intro L0;induction L0 with
 |nil=>
  intro pre F pw ps pb _ hl;have f:=aB H5;have G:Tz (ab w mg mb ε0) 150 dR.t _ _ _ _ :=
   H2 (mg:=mg) (mb:=mb) (F:=F) (pw:=pw) (fw:=true) (ps:=ps) (pb:=pb) (z:=z) (x:=x) (v:=pre++[]) hw (pre:=pre) (post:=[]) (C9 _ (by have:pre.length≤400:=hl;lia) (by decide) (by decide)) f.2 (by simp [SS.val,Pc.val,eA,s9,ud])
  rw[af] at G ⊢;exact Wz.stop G
 |cons c r ih=>
  intro pre F pw ps pb hr hl;have f:=aB H5;have hl2:pre.length+(r.length+1)≤400:=hl;have G:Tz (ab w mg mb ε0) 150 dR.t _ _ _ _ :=
   H2 (mg:=mg) (mb:=mb) (F:=F) (pw:=pw) (fw:=fI (c::r)) (ps:=ps) (pb:=pb) (z:=z) (x:=x) (v:=pre++c::r) hw (pre:=pre) (post:=c::r) (C9 _ (by lia) (by show (1:Int)≤((r.length+1:Nat):Int);lia) (by show r.length+1≤400;lia)) f.1 (by simp [SS.val,Pc.val,eA,s9,ud])
  have B1:aQ (ab w mg mb ε0) 150 (aP 7 dR.b) _ _ .next _ _:=PW (mg:=mg) (mb:=mb) (F:=F) (pw:=pw) (fw:=fI (c::r)) (ps:=ps) (pb:=pb) (z:=z) (x:=x) hw hx (pre:=pre) (post:=r) (hr c (.head _)) ⟨by lia,by lia⟩;have B2:aQ (ab w mg mb ε0) 150 (bk 7 dR.b) _ _ .next _ _:=Pz (mg:=mg) (mb:=mb) (F:=fun k=>jd u (aF pre) (aF r) c pw (fI (c::r)) ps pb k ||F k) (pw:=jB c) (fw:=fI (c::r)) (ps:=Nat.beq c 32) (pb:=aC c) (z:=z) (x:=x) hw (pre:=pre++[c]) (rest:=r) (fun d hd=>hr d (.tail _ hd)) (by rw[ax];exact Nat.le_add_left 1 _) (by rw[ax];show pre.length+1+r.length≤400;lia);have W:Wz (ab w mg mb ε0) 150 dR.t dR.b _ _ _ _:=ih (pre++[c]) (fun k=>jd u (aF pre) (aF r) c pw (fI (c::r)) ps pb k ||F k) (jB c) (Nat.beq c 32) (aC c) (fun d hd=>hr d (.tail _ hd)) (by rw[ax];show pre.length+1+r.length≤400;lia);have en:aF (pre++[c])=false:=by cases pre<;>rfl
  have ea:(pre++[c])++r=pre++c::r:=by simp
  have el:((pre++[c]).length:Int)=pre.length+1:=by rw[ax];rfl
  rw[en,ea,el] at W;rw[ea,el] at B2;have B:aQ (ab w mg mb ε0) 150 (aP 7 dR.b++bk 7 dR.b) _ _ .next _ _:=Dz.append B1 B2;rw[←HS] at B;exact Wz.go G B W
end
end
section
def gB(sc:AV)(f:Nat→AV):List (Str×AV):=[(aJ,.cell 5),(iw,sc),(EZ,f 0),(B9,f 1),(Ja,f 2),(D7,f 3),(IN,f 4),(EJ,f 5),(Gc,f 6),(C3,f 7),(B5,f 8),(Cs,f 9)]
def dt:St:=aS zL (xG 19 (.any 14))
def nV:bO where
 β:=βA false true
 sp:=bj
 d:=0
 fr:=[]
 f:=.next
 ls:=⟨[(aJ,.cell 5),(iw,.str [.var 2])],bh⟩
 P:=dt
 ss:=aP 11 dC
 k:=12
 out:=gB (.str [.var 2]) (fun U=>ff)
 Q:=dt
theorem SF:nV.chk=true:=by kernel_rfl
def lX(l:List Nat)(more:Bool):SS:=.lit l::Bool.rec [] [.var 3] more
noncomputable def βS:Bd:=[(0,0),(0,0),(0,0),(0,0),(0,0),(0,0),(0,0),(0,400)]
def jq(l:List Nat)(more b:Bool):bO where
 β:=βS
 sp:=bj
 d:=0
 fr:=[]
 f:=.next
 ls:=⟨gB (.str (lX l more)) (fun U=>ff),bh⟩
 P:=dt
 ss:=aP 1 (bk 11 dC)
 k:=12
 out:=gB (.str (lX l more)) (fun k=>.bool (Nat.blt k 2&&b))
 Q:=dt
noncomputable def ym:List Nat:=aZ.filter fun c=>!Nat.beq c 45
theorem N6:((ym.all fun c=>(jq [c] true false).chk)&&((jq [45] false false).chk&&((ym.all fun c=>(jq [45,c] true false).chk)&&((jq [45,45] false false).chk&&(aZ.all fun c=>(jq [45,45,c] true (Nat.beq c 45)).chk)))))=true:=by kernel_rfl
def kZ(l:List Nat)(more b:Bool):bO where
 β:=βS
 sp:=bj
 d:=0
 fr:=[]
 f:=.next
 ls:=⟨gB (.str (lX l more)) (fun k=>.any k),bh⟩
 P:=dt
 ss:=aP 5 (bk 12 dC)
 k:=17
 out:=iQ (.str (lX l more)) (I 0) (fun k=>.any k) tr (.bool b) ff ff
 Q:=dt
theorem JL:(aZ.all fun c=>(kZ [c] false true).chk)=true:=by kernel_rfl
theorem Te:(aZ.all fun c=>aZ.all fun d=>(kZ [c,d] true (jB d)).chk)=true:=by kernel_rfl
def mF(sc ix:AV)(f:Nat→AV)(pw fw ps pb:AV)(g:Nat→AV):List (Str×AV):=iQ sc ix f pw fw ps pb++[(u0,g 0),(vQ,g 1),(vX,g 2),(xb,g 3),(uK,g 4)]
def oP:bO where
 β:=βA false true
 sp:=bj
 d:=0
 fr:=[]
 f:=.next
 ls:=⟨iQ (.str [.var 2]) (.any 15) (fun k=>.any k) (.any 10) (.any 11) (.any 12) (.any 13),bh⟩
 P:=dt
 ss:=aP 5 (bk 18 dC)
 k:=22
 out:=mF (.str [.var 2]) (.any 15) (fun k=>.any k) (.any 10) (.any 11) (.any 12) (.any 13) (fun U=>tr)
 Q:=dt
theorem NP:oP.chk=true:=by kernel_rfl
noncomputable def ft(i:Nat):List Nat:=match i with|0=>[4,5,6,7]|1=>[6]|2=>[8]|3=>[9,3]|4=>[2]|5=>[1]|_=>[0]
noncomputable def iD(i:Nat):List Nat:=match i with|0=>[0,1]|1=>[4]|2=>[0,1,2]|3=>[0,1,2,4]|4=>[0,1]|5=>[0]|_=>[1]
noncomputable def gO(i:Nat)(F:Nat→Bool):Bool:=(ft i).any F
def mN(i:Nat)(F:Nat→Bool):bO where
 β:=βA false true
 sp:=bj
 d:=0
 fr:=[]
 f:=.next
 ls:=⟨mF (.str [.var 2]) (.any 15) (fun k=>bA (aK k (ft i)) (F k) k) (.any 10) (.any 11) (.any 12) (.any 13) (fun k=>.any (20+k)),bh⟩
 P:=dt
 ss:=aP 1 (bk (23+i) dC)
 k:=22
 out:=mF (.str [.var 2]) (.any 15) (fun k=>bA (aK k (ft i)) (F k) k) (.any 10) (.any 11) (.any 12) (.any 13) (fun k=>Bool.rec (.any (20+k)) ff (gO i F&&aK k (iD i)))
 Q:=dt
def sE(F:Nat→Bool)(k:Nat)(b:Bool):Nat→Bool:=fun i=>Bool.rec (F i) b (Nat.beq i k)
def KZ(l:List Nat)(p:(Nat→Bool)→Bool):Bool:=List.rec (motive:=fun U=>(Nat→Bool)→Bool) p (fun k U ih F=>tf.all fun b=>ih (sE F k b)) l (fun U=>false)
theorem JK:([0,1,2,3,4,5,6].all fun i=>KZ (ft i) fun F=>(mN i F).chk)=true:=by kernel_rfl
def mh(s:AV)(e m:AV)(g:Nat→AV):AV:=.obj 296 [(iw,s),(zd,e),(zV,m),(u0,g 0),(vQ,g 1),(vX,g 2),(xb,g 3),(uK,g 4)]
def rK:bO where
 β:=βA false true
 sp:=bj
 d:=1
 fr:=[]
 ls:=⟨mF (.str [.var 2]) (.any 15) (fun k=>.any k) (.any 10) (.any 11) (.any 12) (.any 13) (fun k=>.any (20+k)),bh⟩
 P:=dt
 ss:=bk 30 dC
 f:=.ret (mh (.str [.var 2]) ff (.any 2) (fun k=>.any (20+k)))
 k:=0
 out:=[]
 Q:=dt
theorem Oe:rK.chk=true:=by kernel_rfl
def wg:bO where
 β:=[]
 sp:=bj
 d:=1
 fr:=[]
 ls:=⟨[(aJ,.cell 5),(iw,.str [])],bh⟩
 P:=dt
 ss:=dC
 f:=.ret (mh (.str []) tr ff (fun k=>.bool (Nat.beq k 1 ||(Nat.beq k 2 ||Nat.beq k 3))))
 k:=0
 out:=[]
 Q:=dt
theorem MB:wg.chk=true:=by kernel_rfl
end
section
section
variable {F:Nat→Bool}{u:Bool}{z:Nat→aw}{x:Nat→AV}{w:World}{mg mb:Str→Option Value}{ε0:Ev}
def vB(F G:Nat→Bool)(a:AV)(b:Nat→AV)(x:Nat→AV):Nat→AV:=fun i=>Bool.rec (Bool.rec (Bool.rec (.bool (F i)) (b (i-10)) (Nat.ble 10 i)) (.bool (G (i-20))) (Nat.ble 20 i)) (x (i-30)) (Nat.ble 30 i)
def jV(v:List Nat):Bool:=lR [45,45,45] v
def td(v:List Nat):Nat→Bool:=fun k=>Nat.blt k 2&&jV v
def dN(u:Bool)(v:List Nat):Nat→Bool:=(j5 u v true (td v) true false false).1
theorem si(h:l≠[]):aF l=false:=by cases l with|nil=>exact absurd rfl h|cons=>rfl
theorem Jq(h:c∈aZ)(n:c≠45):c∈ym:=List.mem_filter.mpr ⟨h,by cases q:Nat.beq c 45 with|true=>exact absurd (bX q) n|false=>rfl⟩
theorem Kf(hv:v≠[])(ha:∀ c∈v,c∈aZ):∃ l more post,(jq l more (jV v)).chk=true∧v=l++Bool.rec [] post more:=by
 have h:=N6;simp only [Bool.and_eq_true] at h;apply oM h;intro h1 h2 h3 h4 h5
 match v,hv,ha with
 |c::r,_,ha=>
  by_cases e:c=45
  ·subst e
   match r,ha with
   |[],_=>exact⟨[45],false,[],h2,rfl⟩
   |d::r,ha=>
    by_cases e:d=45
    ·subst e
     match r,ha with
     |[],_=>exact⟨[45,45],false,[],h4,rfl⟩
     |f::r,ha=>
      refine⟨[45,45,f],true,r,?_,rfl⟩;have e:jV (45::45::f::r)=Nat.beq f 45:=by
       show Bool.rec (motive:=fun U=>Bool) false true (Nat.beq 45 f)=_
       by_cases q:f=45
       ·subst q;rfl
       ·rw[show Nat.beq f 45=false by cases z:Nat.beq f 45 with|true=>exact absurd (bX z) q|false=>rfl,show Nat.beq 45 f=false by cases z:Nat.beq 45 f with|true=>exact absurd (bX z).symm q|false=>rfl]
      rw[e];exact aq h5 f (ha f (.tail _ (.tail _ (.head _))))
    ·refine⟨[45,d],true,r,?_,rfl⟩
     have q:Nat.beq 45 d=false:=by cases z:Nat.beq 45 d with|true=>exact absurd (bX z).symm e|false=>rfl
     have e2:jV (45::d::r)=false:=by
      show Bool.rec (motive:=fun U=>Bool) false _ (Nat.beq 45 d)=_;rw[q]
     rw[e2];exact aq h3 d (Jq (ha d (.tail _ (.head _))) e)
  ·refine⟨[c],true,r,?_,rfl⟩
   have q:Nat.beq 45 c=false:=by cases z:Nat.beq 45 c with|true=>exact absurd (bX z).symm e|false=>rfl
   have e2:jV (c::r)=false:=by
    show Bool.rec (motive:=fun U=>Bool) false _ (Nat.beq 45 c)=_;rw[q]
   rw[e2];exact aq h1 c (Jq (ha c (.head _)) e)
theorem TM(hv:v≠[])(ha:∀ c∈v,c∈aZ):∃ l more post,(kZ l more (fI v)).chk=true∧v=l++Bool.rec [] post more:=by
 match v,hv,ha with
 |[c],_,ha=>exact⟨[c],false,[],aq JL c (ha c (.head _)),rfl⟩
 |c::d::r,_,ha=>exact⟨[c,d],true,r,aq (aq Te c (ha c (.head _))) d (ha d (.tail _ (.head _))),rfl⟩
theorem HJ(P:Params)(l post:List Nat)(more:Bool):(lX l more).val (eA P [] post)=l++Bool.rec [] post more:=by
 cases more
 ·exact rfl
 ·show l++(post++[])=l++post
  rw[af]
theorem FW(P:Params){post:List Nat}(h:post.length≤400):aM βS (eA P [] post):=by
 intro i p hp;have z0:∀ {q:Int×Int},some ((0:Int),(0:Int))=some q→q.1≤0∧(0:Int)≤q.2:=fun h=>by (apply j1 h;clear h;rintro rfl);exact⟨bz _,bz _⟩
 match i with
 |0=>exact z0 hp
 |1=>exact z0 hp
 |2=>exact z0 hp
 |3=>exact z0 hp
 |4=>exact z0 hp
 |5=>exact z0 hp
 |6=>exact z0 hp
 |7=>(apply j1 hp;clear hp;rintro rfl);exact⟨bK _,by show ((post.length:Nat):Int)≤400;lia⟩
 |i+8=>injection hp
theorem oZ(hx:x 19=b 4):bC (ai ε (vB F G a b x) z) dt=aS z x:=by
 unfold aS eF;rw[hx];rfl
section
variable (hw:ε0.P=w.params){v:List Nat}(hv:v≠[])(ha:∀ c∈v,c∈aZ)(hl:v.length≤400)
include hw hv ha hl
theorem M0:aQ (ab w mg mb ε0) 150 (aP 11 dC) ⟨[(aJ,.cell 5),(iw,.str (.k v))],bh⟩ (aS z x) .next ⟨gB (.str (.k v)) (fun U=>ff),bh⟩ (aS z x):=by
 have hb:=mI ε0.P (pre:=v) (post:=[]) ⟨hl,by decide⟩;rw[si hv] at hb;have D:=ck (mg:=mg) (mb:=mb) (v:=vB (fun U=>false) (fun U=>false) .none (fun U=>x 19) x) (z:=z) hw (ε:=eA ε0.P v []) rfl (j8 ε0.P v []) nV hb ⟨rfl,Nat.zero_le _,rfl⟩ SF;have e:(SS.val (eA ε0.P v []) [.var 2])=v:=af v;have e1:cC (ai (eA ε0.P v []) (vB (fun U=>false) (fun U=>false) .none (fun U=>x 19) x) z) nV.ls=⟨[(aJ,.cell 5),(iw,.str (.k v))],bh⟩:=by
  show (⟨[(aJ,AV.cell 5),(iw,AV.str (.k (SS.val (eA ε0.P v []) [.var 2])))],bh⟩ : ac)=_;rw[e]
 have e2:cC (ai (eA ε0.P v []) (vB (fun U=>false) (fun U=>false) .none (fun U=>x 19) x) z) ⟨nV.out,nV.ls.sc⟩=⟨gB (.str (.k v)) (fun U=>ff),bh⟩:=by
  show (⟨gB (AV.str (.k (SS.val (eA ε0.P v []) [.var 2]))) (fun U=>ff),bh⟩ : ac)=_;rw[e]
 rw[e1,e2,show nV.P=dt from rfl,show nV.Q=dt from rfl,oZ rfl] at D;exact D
theorem UI:aQ (ab w mg mb ε0) 150 (aP 1 (bk 11 dC)) ⟨gB (.str (.k v)) (fun U=>ff),bh⟩ (aS z x) .next ⟨gB (.str (.k v)) (fun k=>.bool (td v k)),bh⟩ (aS z x):=by
 apply mC (Kf hv ha);intro l more post hc e;have hp:post.length≤400∨more=false:=by
  cases more
  ·exact .inr rfl
  ·left;rw[e,ax] at hl;have hl:l.length+post.length≤400:=hl;lia
 obtain⟨post,hp,e⟩ : ∃ post:List Nat,post.length≤400∧v=l++Bool.rec [] post more:=by
  rcases hp with q|q
  ·exact⟨post,q,e⟩
  ·subst q;exact⟨[],by decide,e⟩
 have D:=ck (mg:=mg) (mb:=mb) (v:=vB (fun U=>false) (fun U=>false) .none (fun U=>x 19) x) (z:=z) hw (ε:=eA ε0.P [] post) rfl (j8 ε0.P [] post) (jq l more (jV v)) (FW _ hp) ⟨rfl,Nat.zero_le _,rfl⟩ hc;have e0:=(HJ ε0.P l post more).trans e.symm;have e1:cC (ai (eA ε0.P [] post) (vB (fun U=>false) (fun U=>false) .none (fun U=>x 19) x) z) (jq l more (jV v)).ls=⟨gB (.str (.k v)) (fun U=>ff),bh⟩:=by
  show (⟨gB (AV.str (.k (SS.val (eA ε0.P [] post) (lX l more)))) (fun U=>ff),bh⟩ : ac)=_;rw[e0]
 have e2:cC (ai (eA ε0.P [] post) (vB (fun U=>false) (fun U=>false) .none (fun U=>x 19) x) z) ⟨(jq l more (jV v)).out,(jq l more (jV v)).ls.sc⟩=⟨gB (.str (.k v)) (fun k=>.bool (td v k)),bh⟩:=by
  show (⟨gB (AV.str (.k (SS.val (eA ε0.P [] post) (lX l more)))) (fun k=>.bool (td v k)),bh⟩ : ac)=_;rw[e0]
 rw[e1,e2,show (jq l more (jV v)).P=dt from rfl,show (jq l more (jV v)).Q=dt from rfl,oZ rfl] at D;exact D
theorem OM:aQ (ab w mg mb ε0) 150 (aP 5 (bk 12 dC)) ⟨gB (.str (.k v)) (fun k=>.bool (F k)),bh⟩ (aS z x) .next ⟨lsC v 0 F true (fI v) false false,bh⟩ (aS z x):=by
 apply mC (TM hv ha);intro l more post hc e;have hp:post.length≤400∨more=false:=by
  cases more
  ·exact .inr rfl
  ·left;rw[e,ax] at hl;have hl:l.length+post.length≤400:=hl;lia
 obtain⟨post,hp,e⟩ : ∃ post:List Nat,post.length≤400∧v=l++Bool.rec [] post more:=by
  rcases hp with q|q
  ·exact⟨post,q,e⟩
  ·subst q;exact⟨[],by decide,e⟩
 have D:=ck (mg:=mg) (mb:=mb) (v:=vB F (fun U=>false) .none (fun U=>x 19) x) (z:=z) hw (ε:=eA ε0.P [] post) rfl (j8 ε0.P [] post) (kZ l more (fI v)) (FW _ hp) ⟨rfl,Nat.zero_le _,rfl⟩ hc;have e0:=(HJ ε0.P l post more).trans e.symm;have e1:cC (ai (eA ε0.P [] post) (vB F (fun U=>false) .none (fun U=>x 19) x) z) (kZ l more (fI v)).ls=⟨gB (.str (.k v)) (fun k=>.bool (F k)),bh⟩:=by
  show (⟨gB (AV.str (.k (SS.val (eA ε0.P [] post) (lX l more)))) (fun k=>.bool (F k)),bh⟩ : ac)=_;rw[e0]
 have e2:cC (ai (eA ε0.P [] post) (vB F (fun U=>false) .none (fun U=>x 19) x) z) ⟨(kZ l more (fI v)).out,(kZ l more (fI v)).ls.sc⟩=⟨lsC v 0 F true (fI v) false false,bh⟩:=by
  show (⟨iQ (AV.str (.k (SS.val (eA ε0.P [] post) (lX l more)))) (.int (.k ((am.k 0).val _))) (fun k=>.bool (F k)) tr (.bool (fI v)) ff ff,bh⟩ : ac)=_;rw[e0,bV];rfl
 rw[e1,e2,show (kZ l more (fI v)).P=dt from rfl,show (kZ l more (fI v)).Q=dt from rfl,oZ rfl] at D;exact D
end
end
end
section
section
variable {F:Nat→Bool}{u:Bool}{z:Nat→aw}{x:Nat→AV}{w:World}{mg mb:Str→Option Value}{ε0:Ev}
theorem vd(ε:Ev):aM [] ε:=fun U U h=>by injection h
theorem Fq(h:aA σ'=aA σ):iM (aA σ) v σ'=σ':=by
 unfold iM;rw[h,show Nat.beq (aA σ) (aA σ)=true from Nat.beq_refl _]
theorem pU(hw:ε0.P=w.params)(he:ε0.Ok)(hf:eD f gL=some (cM f))(hb:iY (cM f).args (cM f).dflt vs []=some ls)
  (D:aQ (ab w mg mb ε0) n (cM f).body ⟨ls,(cM f).sc⟩ σ (.ret r) L σ') (hl:aA σ'=aA σ):fnIn (cE w.params) f=true∧Rz (ab w mg mb ε0) (n+5) σ f vs r σ':=by
 have P:g8 (ab w mg mb ε0) 0 (wz []):=AN hw he (vd _);apply aN (P.hf f _ hf);intro g1 g2;refine⟨g1,?_⟩;have H:cF (ab w mg mb ε0) (n+5) σ f vs [] r (iM (aA σ) r σ'):=sG g2 hb (Nat.le_refl _) (.inl rfl) D.h;rw[Fq hl] at H;exact⟨@H⟩
theorem H9(hw:ε0.P=w.params)(he:ε0.Ok)(hf:eD f gL=some (cM f))(hb:iY (cM f).args (cM f).dflt vs []=some ls)
  (D:aQ (ab w mg mb ε0) n (cM f).body ⟨ls,(cM f).sc⟩ σ .next L σ') (hl:aA σ'=aA σ):fnIn (cE w.params) f=true∧Rz (ab w mg mb ε0) (n+5) σ f vs .none σ':=by
 have P:g8 (ab w mg mb ε0) 0 (wz []):=AN hw he (vd _);apply aN (P.hf f _ hf);intro g1 g2;refine⟨g1,?_⟩;have H:cF (ab w mg mb ε0) (n+5) σ f vs [] .none (iM (aA σ) .none σ'):=sG g2 hb (Nat.le_refl _) (.inr ⟨rfl,rfl⟩) D.h;rw[Fq hl] at H;exact⟨@H⟩
noncomputable def gk(F0:Nat→Bool)(l:List Nat)(G:Nat→Bool):Nat→Bool:=match l with|[]=>F0|k::r=>gk (sE F0 k (G k)) r G
theorem uA(k a:Nat)(r:List Nat):aK k (a::r)=(Nat.beq k a ||aK k r):=by
 show Bool.rec (motive:=fun U=>Bool) (aK k r) true (Nat.beq k a)=_;cases Nat.beq k a<;>rfl
theorem L4:∀ {l:List Nat} {F0:Nat→Bool},aK k l=false→gk F0 l G k=F0 k:=by
 intro L0;induction L0 with
 |nil=>
  intro _ _;exact rfl
 |cons a r ih=>
  intro F0 h;rw[uA,Bool.or_eq_false_iff] at h;show gk (sE F0 a (G a)) r G k=_;rw[ih h.2];show Bool.rec (motive:=fun U=>Bool) (F0 k) (G a) (Nat.beq k a)=_;rw[h.1]
theorem Fa:∀ {l:List Nat} {F0:Nat→Bool},aK k l=true→gk F0 l G k=G k:=by
 intro L0;induction L0 with
 |nil=>
  intro _ h;injection h
 |cons a r ih=>
  intro F0 h;rw[uA] at h;show gk (sE F0 a (G a)) r G k=_;cases q:aK k r with
  |true=>exact ih q
  |false=>
   rw[L4 q];rw[q,Bool.or_false] at h;show Bool.rec (motive:=fun U=>Bool) (F0 k) (G a) (Nat.beq k a)=_;rw[h,bX h]
theorem OW:∀ {l:List Nat} {F0:Nat→Bool},List.rec (motive:=fun U=>(Nat→Bool)→Bool) p (fun k U ih F=>tf.all fun b=>ih (sE F k b)) l F0=true→p (gk F0 l G)=true:=by
 intro L0;induction L0 with
 |nil=>
  intro _ h;exact h
 |cons a r ih=>
  intro F0 h;exact ih (aq h (G a) (cU _))
theorem Pr:∀ {l:List Nat},(∀ k∈l,F k=G k)→l.any F=l.any G:=by
 intro L0;induction L0 with
 |nil=>
  intro _;exact rfl
 |cons a r ih=>
  intro h;rw[List.any_cons,List.any_cons,h a (.head _),ih fun k hk=>h k (.tail _ hk)]
theorem TB(i:Nat)(G:Nat→Bool):gO i (gk (fun U=>false) (ft i) G)=gO i G:=Pr fun U hk=>Fa (o9.mpr hk)
theorem T6(i k:Nat)(G:Nat→Bool):bA (aK k (ft i)) (gk (fun U=>false) (ft i) G k) k=bA (aK k (ft i)) (G k) k:=by
 cases q:aK k (ft i) with
 |true=>rw[Fa q]
 |false=>rfl
theorem vp(ha:a=a')(hb:b=b')(hf:∀ k,k<10→f k=f' k)(hp:p=p')(hq:q=q')(hr:r=r')(hs:s=s')(hg:∀ k,k<5→g k=g' k):mF a b f p q r s g=mF a' b' f' p' q' r' s' g':=by
 unfold mF;rw[nW ha hb hf hp hq hr hs,hg 0 (by decide),hg 1 (by decide),hg 2 (by decide),hg 3 (by decide),hg 4 (by decide)]
def m8(v:List Nat)(i:Int)(F:Nat→Bool)(pw fw ps pb:Bool)(G:Nat→Bool):List (Str×AV):=mF (.str (.k v)) (I i) (fun k=>.bool (F k)) (.bool pw) (.bool fw) (.bool ps) (.bool pb) (fun k=>.bool (G k))
def b6(pw fw ps pb:Bool)(y:AV)(i:Int):Nat→AV:=(tn (I i) [.bool pw,.bool fw,.bool ps,.bool pb,y])
section
variable {pw fw ps pb:Bool}{i:Int}{G:Nat→Bool}{ε:Ev}
theorem wR(hk:k<10)(a:AV)(b:Nat→AV):flA (ai ε (vB F G a b x) z) (.any k)=.bool (F k):=by
 show (Bool.rec (Bool.rec (Bool.rec (.bool (F k)) _ (Nat.ble 10 k)) _ (Nat.ble 20 k)) _ (Nat.ble 30 k):AV)=_;rw[pn hk,pn (Nat.lt_trans hk (by decide:10<20)),pn (Nat.lt_trans hk (by decide:10<30))]
theorem yu(hk:k<5)(a:AV)(b:Nat→AV):flA (ai ε (vB F G a b x) z) (.any (20+k))=.bool (G k):=by
 show (Bool.rec (Bool.rec _ (.bool (G (20+k-20))) (Nat.ble 20 (20+k))) _ (Nat.ble 30 (20+k)):AV)=_;rw[Nat.ble_eq_true_of_le (Nat.le_add_right 20 k),pn (show 20+k<30 from Nat.lt_of_lt_of_le (Nat.add_lt_add_left hk 20) (by decide)),Nat.add_sub_cancel_left]
variable (hw:ε0.P=w.params){v:List Nat}(hv:v≠[])(hl:v.length≤400)
include hw hv hl
theorem PT:aQ (ab w mg mb ε0) 150 (aP 5 (bk 18 dC)) ⟨lsC v i F pw fw ps pb,bh⟩ (aS z x) .next ⟨m8 v i F pw fw ps pb (fun U=>true),bh⟩ (aS z x):=by
 have hb:=mI ε0.P (pre:=v) (post:=[]) ⟨hl,by decide⟩;rw[si hv] at hb;have D:=ck (mg:=mg) (mb:=mb) (v:=vB F (fun U=>false) .none (b6 pw fw ps pb (x 19) i) x) (z:=z) hw (ε:=eA ε0.P v []) rfl (j8 ε0.P v []) oP hb ⟨rfl,Nat.zero_le _,rfl⟩ NP;have e:(SS.val (eA ε0.P v []) [.var 2])=v:=af v;have e1:cC (ai (eA ε0.P v []) (vB F (fun U=>false) .none (b6 pw fw ps pb (x 19) i) x) z) oP.ls=⟨lsC v i F pw fw ps pb,bh⟩ :=
  congrArg (fun l=>(⟨l,bh⟩ : ac)) (nW (congrArg (fun t=>AV.str (.k t)) e) rfl (fun k hk=>wR hk _ _) rfl rfl rfl rfl)
 have e2:cC (ai (eA ε0.P v []) (vB F (fun U=>false) .none (b6 pw fw ps pb (x 19) i) x) z) ⟨oP.out,oP.ls.sc⟩=⟨m8 v i F pw fw ps pb (fun U=>true),bh⟩ :=
  congrArg (fun l=>(⟨l,bh⟩ : ac)) (vp (congrArg (fun t=>AV.str (.k t)) e) rfl (fun k hk=>wR hk _ _) rfl rfl rfl rfl (g:=fun U=>tr) (g':=fun U=>.bool true) (fun k hk=>rfl))
 rw[e1,e2,show oP.P=dt from rfl,show oP.Q=dt from rfl,oZ rfl] at D;exact D
theorem oS(m:Nat)(hm:m∈[0,1,2,3,4,5,6]):aQ (ab w mg mb ε0) 150 (aP 1 (bk (23+m) dC)) ⟨m8 v i F pw fw ps pb G,bh⟩ (aS z x) .next ⟨m8 v i F pw fw ps pb (fun k=>G k&&!(gO m F&&aK k (iD m))),bh⟩ (aS z x):=by
 have hb:=mI ε0.P (pre:=v) (post:=[]) ⟨hl,by decide⟩;rw[si hv] at hb;have hc:(mN m (gk (fun U=>false) (ft m) F)).chk=true:=OW (aq JK m hm);have D:=ck (mg:=mg) (mb:=mb) (v:=vB F G .none (b6 pw fw ps pb (x 19) i) x) (z:=z) hw (ε:=eA ε0.P v []) rfl (j8 ε0.P v []) (mN m (gk (fun U=>false) (ft m) F)) hb ⟨rfl,Nat.zero_le _,rfl⟩ hc;have e:(SS.val (eA ε0.P v []) [.var 2])=v:=af v;have ef:∀ k,k<10→flA (ai (eA ε0.P v []) (vB F G .none (b6 pw fw ps pb (x 19) i) x) z) (bA (aK k (ft m)) (gk (fun U=>false) (ft m) F k) k)=.bool (F k):=fun k hk=>by
  rw[T6];cases aK k (ft m) with
  |true=>rfl
  |false=>exact wR hk _ _
 have e1:cC (ai (eA ε0.P v []) (vB F G .none (b6 pw fw ps pb (x 19) i) x) z) (mN m (gk (fun U=>false) (ft m) F)).ls=⟨m8 v i F pw fw ps pb G,bh⟩ :=
  congrArg (fun l=>(⟨l,bh⟩ : ac)) (vp (congrArg (fun t=>AV.str (.k t)) e) rfl ef rfl rfl rfl rfl (fun k hk=>yu hk _ _))
 have e2:cC (ai (eA ε0.P v []) (vB F G .none (b6 pw fw ps pb (x 19) i) x) z) ⟨(mN m (gk (fun U=>false) (ft m) F)).out,(mN m (gk (fun U=>false) (ft m) F)).ls.sc⟩=⟨m8 v i F pw fw ps pb (fun k=>G k&&!(gO m F&&aK k (iD m))),bh⟩ :=
  congrArg (fun l=>(⟨l,bh⟩ : ac)) (vp (congrArg (fun t=>AV.str (.k t)) e) rfl ef rfl rfl rfl rfl (g:=fun k=>flA (ai (eA ε0.P v []) (vB F G .none (b6 pw fw ps pb (x 19) i) x) z) (Bool.rec (motive:=fun U=>AV) (.any (20+k)) ff (gO m (gk (fun U=>false) (ft m) F)&&aK k (iD m)))) (g':=fun k=>.bool (G k&&!(gO m F&&aK k (iD m)))) (fun k hk=>by
   rw[TB];cases q:(gO m F&&aK k (iD m)) with
   |true=>show ff=AV.bool (G k&&false);rw[Bool.and_false];rfl
   |false=>show flA _ (.any (20+k))=AV.bool (G k&&true);rw[Bool.and_true];exact yu hk _ _))
 rw[e1,e2,show (mN m (gk (fun U=>false) (ft m) F)).P=dt from rfl,show (mN m (gk (fun U=>false) (ft m) F)).Q=dt from rfl,oZ rfl] at D;exact D
theorem OG:aQ (ab w mg mb ε0) 150 (bk 30 dC) ⟨m8 v i F pw fw ps pb G,bh⟩ (aS z x) (.ret (mh (.str (.k v)) ff (.bool (F 2)) (fun k=>.bool (G k)))) ⟨[],bh⟩ (aS z x):=by
 have hb:=mI ε0.P (pre:=v) (post:=[]) ⟨hl,by decide⟩;rw[si hv] at hb;have D:=ck (mg:=mg) (mb:=mb) (v:=vB F G .none (b6 pw fw ps pb (x 19) i) x) (z:=z) hw (ε:=eA ε0.P v []) rfl (j8 ε0.P v []) rK hb ⟨rfl,by decide,rfl⟩ Oe;have e:(SS.val (eA ε0.P v []) [.var 2])=v:=af v;have e1:cC (ai (eA ε0.P v []) (vB F G .none (b6 pw fw ps pb (x 19) i) x) z) rK.ls=⟨m8 v i F pw fw ps pb G,bh⟩ :=
  congrArg (fun l=>(⟨l,bh⟩ : ac)) (vp (congrArg (fun t=>AV.str (.k t)) e) rfl (fun k hk=>wR hk _ _) rfl rfl rfl rfl (fun k hk=>yu hk _ _))
 have e2:fF (ai (eA ε0.P v []) (vB F G .none (b6 pw fw ps pb (x 19) i) x) z) rK.f=.ret (mh (.str (.k v)) ff (.bool (F 2)) (fun k=>.bool (G k))):=by
  show Fl.ret (mh (.str (.k (SS.val (eA ε0.P v []) [.var 2]))) ff (.bool (F 2)) (fun k=>.bool (G k)))=_;rw[e]
 rw[e1,e2,show rK.P=dt from rfl,show rK.Q=dt from rfl,oZ rfl] at D;exact D
end
theorem Th:dC=aP 11 dC++(aP 1 (bk 11 dC)++(aP 5 (bk 12 dC)++(.While dR.t dR.b [] dR.p::(aP 5 (bk 18 dC)++(aP 1 (bk (23+0) dC)++(aP 1 (bk (23+1) dC)++(aP 1 (bk (23+2) dC)++(aP 1 (bk (23+3) dC)++(aP 1 (bk (23+4) dC)++(aP 1 (bk (23+5) dC)++(aP 1 (bk (23+6) dC)++bk 30 dC))))))))))):=by kernel_rfl
theorem B8:eD 629 gL=some (cM 629):=by kernel_rfl
def sK(u:Bool)(v:List Nat):Bool:=dN u v 2
def jL(u:Bool)(v:List Nat)(k:Nat):Bool:=(((((((true&&!(gO 0 (dN u v)&&aK k (iD 0)))&&!(gO 1 (dN u v)&&aK k (iD 1)))&&!(gO 2 (dN u v)&&aK k (iD 2)))&&!(gO 3 (dN u v)&&aK k (iD 3)))&&!(gO 4 (dN u v)&&aK k (iD 4)))&&!(gO 5 (dN u v)&&aK k (iD 5)))&&!(gO 6 (dN u v)&&aK k (iD 6)))
def vD(u:Bool)(v:List Nat):AV:=mh (.str (.k v)) (.bool (aF v)) (.bool (sK u v)) (fun k=>.bool (Bool.rec (jL u v k) (Nat.beq k 1 ||(Nat.beq k 2 ||Nat.beq k 3)) (aF v)))
theorem OA(hw:ε0.P=w.params)(he:ε0.Ok)(hx:x 19=.bool u)(ha:∀ c∈v,c∈aZ)(hl:v.length≤400):fnIn (cE w.params) 629=true∧Rz (ab w mg mb ε0) 155 (aS z x) 629 [.cell 5,.str (.k v)] (vD u v) (aS z x):=by
 by_cases hv:v=[]
 ·subst hv
  have D:=ck (mg:=mg) (mb:=mb) (v:=vB (fun U=>false) (fun U=>false) .none (fun U=>x 19) x) (z:=z) hw (ε:=eA ε0.P [] []) rfl (j8 ε0.P [] []) wg (vd _) ⟨rfl,by decide,rfl⟩ MB;rw[show wg.P=dt from rfl,show wg.Q=dt from rfl,oZ rfl] at D;exact pU hw he B8 (by kernel_rfl) D rfl
 ·have B:aQ (ab w mg mb ε0) 150 dC ⟨[(aJ,.cell 5),(iw,.str (.k v))],bh⟩ (aS z x) (.ret (mh (.str (.k v)) ff (.bool (dN u v 2)) (fun k=>.bool (jL u v k)))) ⟨[],bh⟩ (aS z x):=by
   have L:=QX (mg:=mg) (mb:=mb) (z:=z) hw hx v [] (td v) true false false ha (by simpa using hl);rw[Th];exact(M0 hw hv ha hl).append ((UI hw hv ha hl).append ((OM hw hv ha hl).append (Dz.cons (Dz.while_ L) ((PT hw hv hl).append ((oS hw hv hl 0 (by decide)).append ((oS hw hv hl 1 (by decide)).append ((oS hw hv hl 2 (by decide)).append ((oS hw hv hl 3 (by decide)).append ((oS hw hv hl 4 (by decide)).append ((oS hw hv hl 5 (by decide)).append ((oS hw hv hl 6 (by decide)).append (OG hw hv hl))))))))))))
  have R:=pU hw he B8 (vs:=[.cell 5,.str (.k v)]) (ls:=[(aJ,.cell 5),(iw,.str (.k v))]) (by kernel_rfl) B rfl;have e:vD u v=mh (.str (.k v)) ff (.bool (dN u v 2)) (fun k=>.bool (jL u v k)):=by
   unfold vD sK;rw[si hv];rfl
  rw[e];exact R
end
end
section
section
structure Az (Γ:ar) (n:Nat) (t:Expr) (v:AV) (ls:ac) (σ:St) (ls':ac) (σ':St):Prop where
 h:jl Γ n (fun c=>assign t c.env) v ls σ ls' σ'
section
variable {Γ:ar}{n:Nat}
inductive Fz (Γ:ar) (n:Nat) (t:Expr) (b:List Stmt):It→ac→St→Fl→ac→St→Prop
 |stop {it:It} {ls:ac} {σ:St}:kJ σ it=some none→Fz Γ n t b it ls σ .next ls σ
 |step {it it':It} {v:AV} {ls ls0 ls1 ls2:ac} {σ σ0 σ1 σ2:St} {f:Fl}:kJ σ it=some (some (v,it'))→Az Γ n t v ls σ ls0 σ0→aQ Γ n b ls0 σ0 .next ls1 σ1→Fz Γ n t b it' ls1 σ1 f ls2 σ2→Fz Γ n t b it ls σ f ls2 σ2
 |ret {it it':It} {v x:AV} {ls ls0 ls1:ac} {σ σ0 σ1:St}:kJ σ it=some (some (v,it'))→Az Γ n t v ls σ ls0 σ0→aQ Γ n b ls0 σ0 (.ret x) ls1 σ1→Fz Γ n t b it ls σ (.ret x) ls1 σ1
theorem Fz.ok(h:Fz Γ n t b it ls σ f ls' σ')(hn:ie t=true):∀ {c A s m imm cs I} {Rq:Result→Shared→Prop},bp Γ c A n→cK c ls→aj Γ c.h₀ c.L s.heap m ls.v σ imm cs→ge imm (ae cs) I it →
  (∀ h' tk m' imm' cs' fl,aj Γ c.h₀ c.L h' m' ls'.v σ' imm' cs'→cK c ls'→nM I imm cs imm' cs'→FR Γ imm' cs' fl f→Rq (.ok fl) {s with heap:=h',toks:=tk})→codeAny (model Γ.prog Γ.w) A (.forLoop t (.ref I) b [] c.env) Rq s:=by
 induction h with
 |@stop it ls σ h1=>
  intro c A s m imm cs I Rq C l Rp hi k;refine lc (r8 h1 C Rp hi ?_);intro h' tk imm' R' x';exact wpAny_execs_nil (k h' tk m imm' cs _ R' l ⟨x',fun U U h=>h⟩ .next)
 |@step it it' v ls ls0 ls1 ls2 σ σ0 σ1 σ2 f h1 h2 h3 _ ih=>
  intro c A s m imm cs I Rq C l Rp hi k;refine lc (r8 h1 C Rp hi ?_);intro h' tk imm' val R' x' i' hv;apply ah i'.obj;intro o1 o2 o3;refine sz hn (s:={s with heap:=h',toks:=tk}) (R'.N _ (bq _ o2)).1 o3 ?_;refine h2.h C l (s:={s with heap:=h',toks:=tk}) R' hv fun ha ta ma ia ca Ra la xa=>?_;refine h3.h C la (s:={s with heap:=ha,toks:=ta}) Ra fun hz tz mz iz cz fl Rz lz xz fz=>?_;have xt:aH imm' cs iz cz:=xa.trans xz;have xI:nM I imm cs iz cz:=⟨fun q hq hne=>xt.i q (x' q hq hne),xt.r⟩;(obtain e:_=_:=FR.inv fz;subst e);exact ih C lz (s:={s with heap:=hz,toks:=tz}) Rz (i'.ext xt) fun h2 t2 m2 i2 c2 fl R2 l2 x2 f2=>k h2 t2 m2 i2 c2 fl R2 l2 ⟨fun q hq hne=>x2.i q (xI.i q hq hne) hne,fun k a h=>x2.r k a (xI.r k a h)⟩ f2
 |@ret it it' v x ls ls0 ls1 σ σ0 σ1 h1 h2 h3=>
  intro c A s m imm cs I Rq C l Rp hi k;refine lc (r8 h1 C Rp hi ?_);intro h' tk imm' val R' x' i' hv;apply ah i'.obj;intro o1 o2 o3;refine sz hn (s:={s with heap:=h',toks:=tk}) (R'.N _ (bq _ o2)).1 o3 ?_;refine h2.h C l (s:={s with heap:=h',toks:=tk}) R' hv fun ha ta ma ia ca Ra la xa=>?_;refine h3.h C la (s:={s with heap:=ha,toks:=ta}) Ra fun hz tz mz iz cz fl Rz lz xz fz=>?_;have xt:aH imm' cs iz cz:=xa.trans xz;have xI:nM I imm cs iz cz:=⟨fun q hq hne=>xt.i q (x' q hq hne),xt.r⟩;obtain⟨_,e0,hv2⟩:=FR.inv fz;clear fz;subst e0;exact k hz tz mz iz cz _ Rz lz xI (.ret hv2)
open Classical in
def ur(t:Expr)(b:List Stmt)(it:It)(ls:ac)(σ:St)(f:Fl)(ls':ac)(σ':St):aR:={aR.bot with fo:=fun ls1 σ1 t1 it1 b1=>if ls1=ls∧σ1=σ∧t1=t∧it1=it∧b1=b then some (f,ls',σ') else none}
theorem LP:(ur t b it ls σ f ls' σ').fo ls σ t it b=some (f,ls',σ'):=if_pos ⟨rfl,rfl,rfl,rfl,rfl⟩
theorem Nh(h:(ur t b it ls σ f ls' σ').fo ls1 σ1 t1 it1 b1=some p):(ls1=ls∧σ1=σ∧t1=t∧it1=it∧b1=b)∧(f,ls',σ')=p:=by
 by_cases e:ls1=ls∧σ1=σ∧t1=t∧it1=it∧b1=b
 ·have h2:(ur t b it ls σ f ls' σ').fo ls1 σ1 t1 it1 b1=some (f,ls',σ'):=if_pos e
  exact⟨e,osI (h2.symm.trans h)⟩
 ·have h2:(ur t b it ls σ f ls' σ').fo ls1 σ1 t1 it1 b1=none:=if_neg e
  rw[h2] at h;injection h
theorem Dz.for_(ht:ie t=true)(hs:mc ex=true)(hy:Yz Γ n ex ls σ v σ1)(hi:sP σ1 v=some it)(h:Fz Γ n t b it ls σ1 f ls' σ') :
  kg Γ n (.For t ex b [] pos) ls σ f ls' σ':=⟨by
 have F:sk Γ n (ur t b it ls σ1 f ls' σ').fo:=by
  intro ls1 σ2 it1 t1 b1 f1 ls2 σ3 hq hn;obtain⟨⟨rfl,rfl,rfl,rfl,rfl⟩,e⟩:=Nh hq;injection e with e1 e;injection e with e2 e3;subst e1 e2 e3;exact h.ok hn
 intro c A s m imm cs Q E C l Rp k;show wpAny _ _ (exec (.For t ex b [] pos) c.env) _ _ _;rw[exec_For];refine wpAny_bind (wpAny_standAt (wpAny_bind (hy.h C l Rp fun hx tx ix cx va Rx xx qx=>?_)));exact Fm F hi LP C l (s:={s with heap:=hx,toks:=tx}) Rx qx hs ht fun h' tk m' i2 c2 fl R2 l2 x2 f2=>k h' tk m' i2 c2 fl R2 l2 (xx.trans x2) f2⟩
theorem Yz.conv(h:Yz Γ n e ls σ v σ')(f:∀ imm ρ val,VR Γ imm ρ val v→VR Γ imm ρ val v'):Yz Γ n e ls σ v' σ':=⟨by
 intro c A s m imm cs Q E C l Rp k;exact h.h C l Rp fun hx tx ix cx va Rx xx qx=>k hx tx ix cx va Rx xx (f _ _ _ qx)⟩
theorem Yz.le(hn:n'≤n)(h:Yz Γ n' e ls σ v σ'):Yz Γ n e ls σ v σ':=⟨dr.le hn h.h⟩
theorem Az.le(hn:n'≤n)(h:Az Γ n' t v ls σ ls' σ'):Az Γ n t v ls σ ls' σ':=⟨by
 intro c A s m imm cs x Q E C;exact h.h (C.le hn)⟩
theorem VR.sames{s t:SS}(e:s.val Γ.ε=t.val Γ.ε)(o:cG Γ.ε t)(h:VR Γ imm ρ v (.str s)):VR Γ imm ρ v (.str t):=by
 apply dh h.inv;intro u e0 _ k;subst e0;exact .str (by rw[e]) o (by rw[←e];exact k)
end
section
variable {w:World}{mg mb:Str→Option Value}{ε0:Ev}(hw:ε0.P=w.params)(he:ε0.Ok)
include hw he
theorem mZ:g8 (ab w mg mb ε0) 0 (l9 [] bj):=rM hw he (fun U U h=>by injection h) oN
theorem j6(h:(cX [] bj 0).asg ls σ v t=some (ls',σ')):Az (ab w mg mb ε0) 150 t v ls σ ls' σ':=by
 have D:jl (ab w mg mb ε0) 30 (fun c=>assign t c.env) v ls σ ls' σ':=(gu (mZ hw he) 300 0).S.asg h;exact Az.le (n':=30) (by decide) ⟨@D⟩
theorem yE(hd:d≤12)(h:(cX [] bj d).exs ls σ ss=some (f,ls',σ')):aQ (ab w mg mb ε0) 150 ss ls σ f ls' σ':=by
 have D:bt (ab w mg mb ε0) (10*d+0+30) (fun c=>execs ss c.env) ls σ f ls' σ':=(gu (mZ hw he) 300 d).S.exs h;exact Dz.le (n':=10*d+0+30) (by lia) ⟨@D⟩
theorem GS(hd:d≤12)(h:(cX [] bj d).ev ls σ e=some (v,σ')):Yz (ab w mg mb ε0) 150 e ls σ v σ':=by
 have D:b9 (ab w mg mb ε0) (10*d+0+30) (fun c=>eval e c.env) ls σ v σ':=(gu (mZ hw he) 300 d).E.ev h;exact Yz.le (n':=10*d+0+30) (by lia) ⟨@D⟩
theorem ub(hd:d≤12)(h:(cX [] bj d).tst ls σ e=some (b,σ')):Tz (ab w mg mb ε0) 150 e ls σ b σ':=by
 have D:dr (ab w mg mb ε0) (10*d+0+30) (fun c=>isTrue e c.env (eval e c.env)) ls σ (ij b) σ':=(gu (mZ hw he) 300 d).E.tst h;exact Tz.le (n':=10*d+0+30) (by lia) ⟨@D⟩
end
noncomputable def aW(ε:Ev):eY:=ai ε .any .any
noncomputable def m7(β:Bd)(l:List AV):Bool:=l.all (kF β)
section
variable {Γ:ar}{β:Bd}{imm:List (Addr×Obj)}{ρ:List Addr}
theorem wC(he:Γ.ε.Ok)(hb:aM β Γ.ε):eJ Γ β Γ.ε (aW Γ.ε):=⟨rfl,he,hb,fun U=>bV _,fun U=>db _,fun U U=>gG _⟩
theorem I6(l:List AV):d8 Γ (aW Γ.ε) imm ρ ρ Γ.ε.ov l:=⟨fun i U=>.any rfl,fun k U a e=>e⟩
theorem Ce(h:oE Γ imm ρ (aW Γ.ε).v as):ky Γ.ε.ov as:=fun p hp=>(h p hp).inv
theorem Ou(h:I4 Γ imm ρ (aW Γ.ε).z as):Bc Γ.ε.cv as:=fun p hp=>(h p hp).inv
variable (he:Γ.ε.Ok)(hb:aM β Γ.ε)
include he hb
theorem ao.toZ(h:ao Γ imm ρ v x):ao Γ imm ρ v (aO (aW Γ.ε) x):=ao.up (Γ:=Γ) (ε:=Γ.ε) (ov:=Γ.ε.ov) (cv:=Γ.ε.cv) (wC he hb) x v (I6 _) h
theorem bu.toZ(h:bu Γ imm ρ cs σ):bu Γ imm ρ cs (bC (aW Γ.ε) σ):=bu.up (Γ:=Γ) (ε:=Γ.ε) (ov:=Γ.ε.ov) (cv:=Γ.ε.cv) (wC he hb) σ (I6 _) (fun i U=>.any rfl) h
theorem VR.ofZ(g:m7 β (lv x)=true)(h:VR Γ imm ρ v (flA (aW Γ.ε) x)):VR Γ imm ρ v x:=by
 apply dh (VR.dn (Γ:=Γ) (ε:=Γ.ε) (wC he hb) rfl x v h g);intro as e s t;exact t Γ.ε.ov Γ.ε.cv (Ce s)
theorem bu.ofZ(g:m7 β (fX σ)=true)(h:bu Γ imm ρ cs (bC (aW Γ.ε) σ)):bu Γ imm ρ cs σ:=by
 apply xH (bu.dn (Γ:=Γ) (ε:=Γ.ε) (wC he hb) rfl σ h g);intro as ca e1 s1 e2 s2 t;exact t Γ.ε.ov Γ.ε.cv (Ce s1) (Ou s2)
theorem cF.unz(g:m7 β (lv r++fX P')=true)(H:Rz Γ n (bC (aW Γ.ε) P) f (aO (aW Γ.ε) vs) (flA (aW Γ.ε) r) (bC (aW Γ.ε) P')):cF Γ n P f vs [] r P':=by
 apply aN (zh g);intro g1 g2;intro c A s m ls imm cs vals kwv Rq C R hv hk hk2 k;exact H.h C ⟨R.F,R.N,R.nd,R.C.toZ he hb,R.l⟩ (hv.toZ he hb) hk hk2 fun h' tk imm' cs' val R' x' hx=>k h' tk imm' cs' val ⟨R'.F,R'.N,R'.nd,R'.C.ofZ he hb g2,R'.l⟩ x' (hx.ofZ he hb g1)
end
end
end
section
section
structure Wr where
 line:Int
 col:Int
 n:Int
 T:List Nat
 ws:Bool
 ind:Bool
 oe:Bool
def xw(x:Nat→AV)(W:Wr):Nat→AV:=tO (tO x 13 [some (I W.line),some (I W.col),some (.bool W.ws),some (.bool W.ind),some (.bool W.oe)]) 0 [some (.cell 3)]
def cw(c:Nat→aw)(W:Wr):Nat→aw:=(tO c 0 [none,none,none,some (.inst 771 [(fc,.cell 4)]),some (.rows (.k W.T) (.k W.n))])
def bc(c:Nat→aw)(x:Nat→AV)(W:Wr):St:=aS (cw c W) (xw x W)
def A7(x:Nat→AV)(col ws ind oe line:AV):Nat→AV:=tO (tO x 13 [some line,some col,some ws,some ind,some oe]) 0 [some (.cell 3)]
def Ng(T:SS)(n:am):Nat→aw:=(tO (fun i=>.any i) 0 [none,none,none,some (.inst 771 [(fc,.cell 4)]),some (.rows T n)])
def jc(x:Nat→AV)(T:SS)(n:am)(line col ws ind oe:AV):St:=aS (Ng T n) (A7 x col ws ind oe line)
noncomputable def lI(i:Nat):AV:=.int (V i)
def dz(P:Params)(i:Nat→Int)(t:Nat→List Nat):Ev:=⟨fun k=>Bool.rec (i (k / 2)) ((t (k / 2)).length:Int) (Nat.beq (k % 2) 1),t,P,fun U=>.none,fun U=>.list 0 [] 0⟩
theorem bM(P:Params)(i:Nat→Int)(t:Nat→List Nat):(dz P i t).Ok:=fun k=>by
 show (Bool.rec (i ((2*k+1) / 2)) ((t ((2*k+1) / 2)).length:Int) (Nat.beq ((2*k+1) % 2) 1):Int)=_;have h1:(2*k+1) / 2=k:=by lia
 have h2:(2*k+1) % 2=1:=by lia
 rw[h1,h2];rfl
noncomputable def BY(f:Nat→Int):Nat→Bd→Prop
 |_,[]=>True
 |i,p::r=>(p.1≤f i∧f i≤p.2)∧BY f (i+1) r
theorem H6:∀ {β:Bd} {i:Nat},BY f i β→∀ v p,qI β v=some p→p.1≤f (i+v)∧f (i+v)≤p.2
 |[],_,_,_,_,h=>by injection h
 |q::r,i,g,0,p,h=>by (apply j1 h;clear h;rintro rfl);exact g.1
 |q::r,i,g,v+1,p,h=>by
  have:=H6 g.2 v p h;rw[show i+(v+1)=i+1+v by lia];exact this
theorem gx{ε:Ev}(h:BY ε.iv 0 β):aM β ε:=fun v p hp=>by have:=H6 h v p hp;rwa [Nat.zero_add] at this
theorem Dz.cast(h:Dz Γ n t ls σ f l1 s1)(e1:ls=ls')(e2:σ=σ')(e3:f=f')(e4:l1=l1')(e5:s1=s1'):Dz Γ n t ls' σ' f' l1' s1':=by
 subst e1;subst e2;subst e3;subst e4;subst e5;exact h
theorem Tz.cast(h:Tz Γ n e ls σ b s1)(e1:ls=ls')(e2:σ=σ')(e5:s1=s1'):Tz Γ n e ls' σ' b s1':=by
 subst e1;subst e2;subst e5;exact h
theorem Rz.cast(h:Rz Γ n σ f vs r s1)(e1:σ=σ')(e2:vs=vs')(e3:r=r')(e5:s1=s1'):Rz Γ n σ' f vs' r' s1':=by
 subst e1;subst e2;subst e3;subst e5;exact h
theorem bQ(ε:Ev)(i:Nat):(V i).val ε=ε.iv i:=by show 0+(1*ε.iv i+0)=_;lia
noncomputable def xS(l:List (Nat×AV)):Nat→AV:=fun i=>match eD i l with|some a=>a|none=>.any (30+i)
def vW(x h:Nat→AV):Nat→AV:=fun i=>Bool.rec (h i) (x (i-30)) (Nat.ble 30 i)
theorem Bw(x h:Nat→AV)(i:Nat):vW x h (30+i)=x i:=by
 unfold vW;rw[show Nat.ble 30 (30+i)=true from Nat.ble_eq_true_of_le (by lia),show 30+i-30=i by lia]
theorem Os(h:∀ i,x i=y i):eF x=eF y:=by rw[funext h]
section
variable {ε:Ev}{x h:Nat→AV}{c:Nat→aw}
theorem tR(hl:∀ p∈l,flA (ai ε (vW x h) c) p.2=x p.1)(i:Nat):flA (ai ε (vW x h) c) (xS l i)=x i:=by
 unfold xS;cases q:eD i l with
 |some a=>exact hl (i,a) (zg q)
 |none=>exact Bw x h i
theorem xg{T:SS}{n:am}{W:Wr}(hX:∀ i,flA (ai ε (vW x h) c) (X i)=x i)(hT:T.val ε=W.T)(hn:n.val ε=W.n)
  (h1:flA (ai ε (vW x h) c) line=I W.line) (h2:flA (ai ε (vW x h) c) col=I W.col) (h3:flA (ai ε (vW x h) c) ws=.bool W.ws) (h4:flA (ai ε (vW x h) c) ind=.bool W.ind) (h5:flA (ai ε (vW x h) c) oe=.bool W.oe) :
  bC (ai ε (vW x h) c) (jc X T n line col ws ind oe)=bc c x W:=by
 have e1:bC (ai ε (vW x h) c) (jc X T n line col ws ind oe)=[c 0,c 1,c 2,.inst 771 [(fc,.cell 4)],.rows (.k (T.val ε)) (.k (n.val ε)),eF (fun i=>flA (ai ε (vW x h) c) (A7 X col ws ind oe line i)),c 6,c 7,c 8,c 9]:=rfl;rw[e1,hT,hn];have e2:eF (fun i=>flA (ai ε (vW x h) c) (A7 X col ws ind oe line i))=eF (xw x W):=by
  show eF (tO (tO (fun i=>flA (ai ε (vW x h) c) (X i)) 13 [some (flA (ai ε (vW x h) c) line),some (flA (ai ε (vW x h) c) col),some (flA (ai ε (vW x h) c) ws),some (flA (ai ε (vW x h) c) ind),some (flA (ai ε (vW x h) c) oe)]) 0 [some (.cell 3)])=_;rw[h1,h2,h3,h4,h5,funext hX];rfl
 rw[e2];rfl
end
def rT:List Stmt:=(cM 725).body
def bg:List (Str×NameKind):=(cM 725).sc
def dZ:wa:=xY rT 6
def Bt(l:List Stmt)(i:Nat):Expr×List Stmt×List Stmt:=match ak l i with|some (.If t b o _)=>(t,b,o)|_=>(.Constant .none 0 default,[],[])
def x7(l:List Stmt)(i:Nat):Pos:=match ak l i with|some (.If _ _ _ p)=>p|_=>default
structure uC where
 t:Expr
 it:Expr
 b:List Stmt
 p:Pos
def By(l:List Stmt)(i:Nat):uC:=match ak l i with|some (.For t it b _ p)=>⟨t,it,b,p⟩|_=>⟨.Constant .none 0 default,.Constant .none 0 default,[],default⟩
end
end
section
def iC(tx:SS)(hi br st en:AV):List (Str×AV):=[(aJ,.cell 5),(dg,.str tx),(jG,hi),(vu,br),(nU,st),(o5,en)]
def jf(tx:SS)(hi br st en ch:AV):List (Str×AV):=iC tx hi br st en++[(Gb,ch)]
noncomputable def βW:Bd:=[(0,100000),(0,100000),(0,100000),(0,0),(0,100000),(0,400),(2,40),(0,400),(0,0),(0,400),(0,0),(1,2)]
noncomputable def QK:Nat→AV:=xS [(7,lI 6),(22,.str [.var 5])]
def ej(T:SS)(d dl:Int)(col:AV):St:=jc QK T ⟨d,[(0,1)]⟩ (.int ⟨dl,[(2,1)]⟩) col tr tr (.any 24)
noncomputable def d9(oc:Option Nat):SS:=match oc with|some c=>[.var 2,.var 4,.lit [c],.var 3]|none=>[.var 2,.var 4]
noncomputable def dQ(oc:Option Nat):AV:=match oc with|some c=>.str [.lit [c]]|none=>.none
noncomputable def gR:AV:=.int (V 5)
noncomputable def d6(d:Int):AV:=.int ⟨d,[(5,1),(9,1)]⟩
noncomputable def mY(ss:List Stmt)(ls:List (Str×AV))(σ:St)(k:Nat)(out:List (Str×AV))(σ':St)(sc:List (Str×NameKind)):bO:=⟨βW,bj,3,[],⟨ls,sc⟩,σ,ss,.next,k,out,σ'⟩
def xj(br:Bool)(c:Nat):bO:=mY dZ.b (iC (d9 (some c)) (.any 20) (.bool br) gR (d6 0)) (ej [.var 0] 0 0 (lI 4)) 6 (iC (d9 (some c)) (.any 20) (.bool br) gR (d6 1)) (ej [.var 0] 0 0 (lI 4)) bg
def Be(c:Nat):bO:=mY dZ.b (iC (d9 (some c)) (.any 20) ff gR (d6 0)) (ej [.var 0] 0 0 (lI 4)) 6 (iC (d9 (some c)) (.any 20) tr (d6 0) (d6 1)) (ej [.var 0,.var 4] 1 0 (lI 4)) bg
def Ed:bO:=mY dZ.b (iC (d9 none) (.any 20) ff gR (d6 0)) (ej [.var 0] 0 0 (lI 4)) 6 (iC (d9 none) (.any 20) ff (d6 0) (d6 1)) (ej [.var 0,.var 4,.var 5] 2 1 (I 0)) bg
def sn(oc:Option Nat):bO:=mY (aP 2 dZ.b) (iC (d9 oc) (.any 20) tr gR (d6 0)) (ej [.var 0] 0 0 (lI 4)) 7 (jf (d9 oc) (.any 20) tr gR (d6 0) (dQ oc)) (ej [.var 0] 0 0 (lI 4)) bg
def o7:Expr×List Stmt×List Stmt:=Bt dZ.b 2
def kU:Expr×List Stmt×List Stmt:=Bt o7.2.1 0
def fV:uC:=By kU.2.1 0
def mD(e:Expr)(oc:Option Nat):nf:=⟨βW,⟨jf (d9 oc) (.any 20) tr gR (d6 0) (dQ oc),bg⟩,ej [.var 0] 0 0 (lI 4),e,true⟩
def mt(oc:Option Nat):nX:=⟨βW,bj,0,[],⟨jf (d9 oc) (.any 20) tr gR (d6 0) (dQ oc),bg⟩,ej [.var 0] 0 0 (lI 4),fV.it,.str [.var 4],ej [.var 0] 0 0 (lI 4)⟩
def qD(oc:Option Nat):bO:=match oc with
 |some c=>mY (bk 1 kU.2.1) (jf (d9 oc) (.any 20) tr gR (d6 0) (dQ oc)) (ej [.var 0] 0 0 (I 0)) 7 (jf (d9 oc) (.any 20) tr (d6 0) (d6 0) (dQ oc)) (ej [.var 0,.rep 32 (V 6)] 1 0 (lI 6)) bg
 |none=>mY (bk 1 kU.2.1) (jf (d9 oc) (.any 20) tr gR (d6 0) (dQ oc)) (ej [.var 0] 0 0 (I 0)) 7 (jf (d9 oc) (.any 20) tr (d6 0) (d6 0) (dQ oc)) (ej [.var 0] 0 0 (I 0)) bg
def sQ(oc:Option Nat):bO:=mY (bk 3 dZ.b) (jf (d9 oc) (.any 20) tr gR (d6 0) (dQ oc)) (ej [.var 0] 0 0 (lI 4)) 6 (iC (d9 oc) (.any 20) (.bool oc.isNone) gR (d6 1)) (ej [.var 0] 0 0 (lI 4)) bg
def HY(tx hi br st en ch b:AV):List (Str×AV):=[(aJ,.cell 5),(dg,tx),(jG,hi),(vu,br),(nU,st),(o5,en),(Gb,ch),(CT,b)]
def Bz(c:Nat):SS:=Bool.rec [.lit [c]] [.var 5] (Nat.beq c 10)
def BS(c:Nat):bO:=mY fV.b (HY (.any 20) (.any 21) (.any 22) (.any 23) (.any 25) (.any 26) (.str [.lit [c]])) (ej [.var 0] 0 0 (lI 4)) 8 (HY (.any 20) (.any 21) (.any 22) (.any 23) (.any 25) (.any 26) (.str [.lit [c]])) (ej (.var 0::Bz c) 1 1 (I 0)) bg
def om:List Nat:=aZ.filter aC
def AP:List Nat:=aZ.filter fun c=>!aC c
theorem qn:((om.all fun c=>(xj true c).chk&&((Be c).chk&&(BS c).chk))&&((AP.all fun c=>(xj false c).chk&&((sn (some c)).chk&&((mD o7.1 (some c)).chk&&((mD kU.1 (some c)).chk&&((qD (some c)).chk&&((sQ (some c)).chk&&(mt (some c)).chk)))))) &&
 (Ed.chk&&((sn none).chk&&((mD o7.1 none).chk&&((mD kU.1 none).chk&&((qD none).chk&&((sQ none).chk&&(mt none).chk))))))))=true:=by kernel_rfl
def tA(oc:Option Nat)(d:Int)(b:Bool):nf:=⟨βW,⟨iC (d9 oc) (.any 20) (.any 21) (.any 22) (d6 d),bg⟩,ej [.var 0] 0 0 (lI 4),dZ.t,b⟩
theorem Eg:((aZ.all fun c=>(tA (some c) 0 true).chk)&&((tA none 0 true).chk&&(tA none 1 false).chk))=true:=by kernel_rfl
theorem Lh:dZ.b=aP 2 dZ.b++(.If o7.1 [.If kU.1 (.For fV.t fV.it fV.b [] fV.p::bk 1 kU.2.1) [] (x7 o7.2.1 0)] o7.2.2 (x7 dZ.b 2)::bk 3 dZ.b):=by kernel_rfl
end
section
section
structure c9 (W:Wr) (K:Int):Prop where
 l0:0≤W.line
 l1:W.line+K≤100000
 c0:0≤W.col
 c1:W.col≤100000
 n0:0≤W.n
 n1:W.n+K≤100000
 t1:(W.T.length:Int)+50*K≤100000
def εW(P:Params)(W:Wr)(ind:Int)(nl A s post:List Nat):Ev:=dz P (tn 0 [W.n,W.line,W.col,ind]) (tn [] [W.T,[],A,post,s,nl])
structure nK (ind:Int) (nl A s post:List Nat):Prop where
 i:2≤ind∧ind≤40
 nl:1≤nl.length∧nl.length≤2
 v:A.length+s.length+post.length≤400
theorem jJ(h:c9 W 0)(g:nK ind nl A s post):aM βW (εW P W ind nl A s post):=gx (by
 have e0:∀ a:Int,a≤a:=fun U=>bz _;have h1:=h.l1;have h2:=h.n1;have h3:=h.t1;have h4:=g.v;have h5:=g.nl.1;have h6:=g.nl.2;refine⟨⟨h.n0,by show W.n≤100000;lia⟩,⟨bK _,by show (W.T.length:Int)≤100000;lia⟩,⟨h.l0,by show W.line≤100000;lia⟩,⟨e0 0,e0 0⟩,⟨h.c0,h.c1⟩,⟨bK _,by show (A.length:Int)≤400;lia⟩,g.i,⟨bK _,by show (post.length:Int)≤400;lia⟩,⟨e0 0,e0 0⟩,⟨bK _,by show (s.length:Int)≤400;lia⟩,⟨e0 0,e0 0⟩,⟨by show (1:Int)≤(nl.length:Int);lia,by show (nl.length:Int)≤2;lia⟩,trivial⟩)
def fR(nl:List Nat)(c:Nat):List Nat:=Bool.rec [c] nl (Nat.beq c 10)
def kT(nl:List Nat)(W:Wr)(c:Nat):Wr:={W with T:=W.T++fR nl c,line:=W.line+1,n:=W.n+1,col:=0}
def cP(nl:List Nat)(W:Wr)(s:List Nat):Wr:=s.foldl (kT nl) W
noncomputable def ku(ind:Int)(W:Wr):Wr:={W with T:=W.T++List.replicate ind.toNat 32,n:=W.n+1,col:=ind}
noncomputable def gI(nl:List Nat)(ind:Int):List Nat→Bool→List Nat→Wr→Wr
 |[],true,s,W=>cP nl W s
 |[],false,s,W=>{W with T:=W.T++(s++nl),line:=W.line+1,n:=W.n+2,col:=0}
 |c::r,true,s,W=>Bool.rec (gI nl ind r false [c] (ku ind (cP nl W s))) (gI nl ind r true (s++[c]) W) (aC c)
 |c::r,false,s,W=>Bool.rec (gI nl ind r false (s++[c]) W) (gI nl ind r true [c] {W with T:=W.T++s,n:=W.n+1}) (aC c)
section
variable {x:Nat→AV}{c:Nat→aw}{w:World}{mg mb:Str→Option Value}{ε0:Ev}{W:Wr}{ind:Int}{nl A s post:List Nat}
def hW(hi oe:AV)(g:Nat→AV):Nat→AV:=(tO g 20 [some hi,none,none,none,some oe])
theorem fT{P:Params}{h:Nat→AV}(h24:h 24=.bool W.oe)(hws:W.ws=true)(hin:W.ind=true)(h7:x 7=I ind)(h22:x 22=.str (.k nl)){T:SS}{d dl:Int}{col:AV}{W':Wr}(hT:T.val (εW P W ind nl A s post)=W'.T)(hn:W.n+d=W'.n)(hl:W.line+dl=W'.line)
  (hc:flA (ai (εW P W ind nl A s post) (vW x h) c) col=I W'.col) (e1:W'.ws=W.ws) (e2:W'.ind=W.ind) (e3:W'.oe=W.oe):bC (ai (εW P W ind nl A s post) (vW x h) c) (ej T d dl col)=bc c x W':=by
 refine xg (tR fun p hp=>?_) hT ?_ ?_ hc (by rw[e1,hws];rfl) (by rw[e2,hin];rfl) (by rw[e3];exact h24)
 ·rcases bU hp with rfl|hp
  ·show AV.int (.k ((V 6).val _))=_;rw[bQ,h7];rfl
  ·rw[cH hp]
   show AV.str (.k (nl++[]))=x 22;rw[h22,af]
 ·show d+(1*W.n+0)=W'.n;lia
 ·show AV.int (.k (dl+(1*W.line+0)))=I W'.line;rw[←hl,show dl+(1*W.line+0)=W.line+dl by lia];rfl
theorem i6:flA (ai (εW P W ind nl A s post) (vW x h) c) gR=I A.length:=by
 show AV.int (.k ((V 5).val _))=_;rw[bQ];rfl
theorem eQ(d:Int):flA (ai (εW P W ind nl A s post) (vW x h) c) (d6 d)=I (A.length+s.length+d):=by
 show AV.int (.k (d+(1*(A.length:Int)+(1*(s.length:Int)+0))))=_;rw[show d+(1*(A.length:Int)+(1*(s.length:Int)+0))=A.length+s.length+d by lia];rfl
noncomputable def dj(A s:List Nat)(oc:Option Nat)(post:List Nat):List Nat:=match oc with|some c=>A++(s++c::post)|none=>A++s
theorem GQ(oc:Option Nat):(d9 oc).val (εW P W ind nl A s post)=dj A s oc post:=by
 cases oc with
 |none=>show A++(s++[])=A++s;rw[af]
 |some c=>show A++(s++([c]++(post++[])))=A++(s++c::post);rw[af];rfl
def gV(v:List Nat)(hi br:AV)(st en:Int):List (Str×AV):=iC (.k v) hi br (I st) (I en)
def hJ(v:List Nat)(hi br:AV)(st en:Int)(ch:AV):List (Str×AV):=jf (.k v) hi br (I st) (I en) ch
theorem me{P:Params}{h:Nat→AV}{oc:Option Nat}{hi br st en:AV}{hi' br':AV}{i j:Int}(h1:flA (ai (εW P W ind nl A s post) (vW x h) c) hi=hi')(h2:flA (ai (εW P W ind nl A s post) (vW x h) c) br=br')(h3:flA (ai (εW P W ind nl A s post) (vW x h) c) st=I i)(h4:flA (ai (εW P W ind nl A s post) (vW x h) c) en=I j)(sc:List (Str×NameKind)) :
  cC (ai (εW P W ind nl A s post) (vW x h) c) ⟨iC (d9 oc) hi br st en,sc⟩=⟨gV (dj A s oc post) hi' br' i j,sc⟩:=by
 show (⟨iC (.k ((d9 oc).val _)) (flA _ hi) (flA _ br) (flA _ st) (flA _ en),sc⟩ : ac)=_;rw[GQ,h1,h2,h3,h4];rfl
theorem mM{P:Params}{h:Nat→AV}{oc:Option Nat}{hi br st en ch:AV}{hi' br' ch':AV}{i j:Int}(h1:flA (ai (εW P W ind nl A s post) (vW x h) c) hi=hi')(h2:flA (ai (εW P W ind nl A s post) (vW x h) c) br=br')(h3:flA (ai (εW P W ind nl A s post) (vW x h) c) st=I i)(h4:flA (ai (εW P W ind nl A s post) (vW x h) c) en=I j)(h5:flA (ai (εW P W ind nl A s post) (vW x h) c) ch=ch')(sc:List (Str×NameKind)) :
  cC (ai (εW P W ind nl A s post) (vW x h) c) ⟨jf (d9 oc) hi br st en ch,sc⟩=⟨hJ (dj A s oc post) hi' br' i j ch',sc⟩:=by
 show (⟨jf (.k ((d9 oc).val _)) (flA _ hi) (flA _ br) (flA _ st) (flA _ en) (flA _ ch),sc⟩ : ac)=_;rw[GQ,h1,h2,h3,h4,h5];rfl
theorem uY{c:Nat}(h:c∈aZ)(g:aC c=true):c∈om:=List.mem_filter.mpr ⟨h,g⟩
theorem Gg{c:Nat}(h:c∈aZ)(g:aC c=false):c∈AP:=List.mem_filter.mpr ⟨h,by rw[g];rfl⟩
theorem mP(oc:Option Nat):flA (ai (εW P W ind nl A s post) (vW x h) c) (dQ oc)=dQ oc:=by cases oc<;>rfl
variable {hi:AV}(hw:ε0.P=w.params)(hws:W.ws=true)(hin:W.ind=true)(h7:x 7=I ind)(h22:x 22=.str (.k nl))(hb:c9 W 0)(hg:nK ind nl A s post)
include hw hws hin h7 h22 hb hg
theorem DO(hc:ch∈aZ)(hbr:aC ch=br) :
  aQ (ab w mg mb ε0) 150 dZ.b ⟨gV (dj A s (some ch) post) hi (.bool br) A.length (A.length+s.length),bg⟩ (bc c x W) .next ⟨gV (dj A s (some ch) post) hi (.bool br) A.length (A.length+s.length+1),bg⟩ (bc c x W):=by
 have ok:=qn;simp only [Bool.and_eq_true] at ok;have hj:(xj br ch).chk=true:=by
  cases br with
  |true=>exact(aB (aq ok.1 ch (uY hc hbr))).1
  |false=>exact(aB (aq ok.2.1 ch (Gg hc hbr))).1
 refine(ck (v:=vW x (hW hi (.bool W.oe) fun U=>.none)) (z:=c) hw (ε:=εW ε0.P W ind nl A s post) rfl (bM _ _ _) (xj br ch) (jJ hb hg) ⟨rfl,(by decide:3≤12),rfl⟩ hj).cast ?_ ?_ rfl ?_ ?_
 ·exact me (oc:=some ch) rfl rfl i6 ((eQ 0).trans (by rw[aY])) bg
 ·exact fT rfl hws hin h7 h22 (af _) (aY _) (aY _) (by show AV.int (.k ((V 4).val _))=_;rw[bQ];rfl) rfl rfl rfl
 ·exact me (oc:=some ch) rfl rfl i6 (eQ 1) bg
 ·exact fT rfl hws hin h7 h22 (af _) (aY _) (aY _) (by show AV.int (.k ((V 4).val _))=_;rw[bQ];rfl) rfl rfl rfl
theorem Mx(hc:ch∈aZ)(hbr:aC ch=true) :
  aQ (ab w mg mb ε0) 150 dZ.b ⟨gV (dj A s (some ch) post) hi ff A.length (A.length+s.length),bg⟩ (bc c x W) .next ⟨gV (dj A s (some ch) post) hi tr (A.length+s.length) (A.length+s.length+1),bg⟩ (bc c x {W with T:=W.T++s,n:=W.n+1}):=by
 have ok:=qn;simp only [Bool.and_eq_true] at ok;have hj:(Be ch).chk=true:=(aB (aB (aq ok.1 ch (uY hc hbr))).2).1;refine(ck (v:=vW x (hW hi (.bool W.oe) fun U=>.none)) (z:=c) hw (ε:=εW ε0.P W ind nl A s post) rfl (bM _ _ _) (Be ch) (jJ hb hg) ⟨rfl,(by decide:3≤12),rfl⟩ hj).cast ?_ ?_ rfl ?_ ?_
 ·exact me (oc:=some ch) rfl rfl i6 ((eQ 0).trans (by rw[aY])) bg
 ·exact fT rfl hws hin h7 h22 (af _) (aY _) (aY _) (by show AV.int (.k ((V 4).val _))=_;rw[bQ];rfl) rfl rfl rfl
 ·exact me (oc:=some ch) rfl rfl ((eQ 0).trans (by rw[aY])) (eQ 1) bg
 ·exact fT rfl hws hin h7 h22 (by show W.T++(s++[])=W.T++s;rw[af]) rfl (aY _) (by show AV.int (.k ((V 4).val _))=_;rw[bQ];rfl) rfl rfl rfl
theorem N9:aQ (ab w mg mb ε0) 150 dZ.b ⟨gV (dj A s none post) hi ff A.length (A.length+s.length),bg⟩ (bc c x W) .next ⟨gV (dj A s none post) hi ff (A.length+s.length) (A.length+s.length+1),bg⟩ (bc c x {W with T:=W.T++(s++nl),line:=W.line+1,n:=W.n+2,col:=0}):=by
 have ok:=qn;simp only [Bool.and_eq_true] at ok;refine(ck (v:=vW x (hW hi (.bool W.oe) fun U=>.none)) (z:=c) hw (ε:=εW ε0.P W ind nl A s post) rfl (bM _ _ _) Ed (jJ hb hg) ⟨rfl,(by decide:3≤12),rfl⟩ ok.2.2.1).cast ?_ ?_ rfl ?_ ?_
 ·exact me (oc:=none) rfl rfl i6 ((eQ 0).trans (by rw[aY])) bg
 ·exact fT rfl hws hin h7 h22 (af _) (aY _) (aY _) (by show AV.int (.k ((V 4).val _))=_;rw[bQ];rfl) rfl rfl rfl
 ·exact me (oc:=none) rfl rfl ((eQ 0).trans (by rw[aY])) (eQ 1) bg
 ·exact fT rfl hws hin h7 h22 (by show W.T++(s++(nl++[]))=W.T++(s++nl);rw[af]) rfl rfl (by show AV.int (.k ((am.k 0).val _))=_;rw[bV];rfl) rfl rfl rfl
end
end
end
section
section
section
variable {x:Nat→AV}{c:Nat→aw}{w:World}{mg mb:Str→Option Value}{ε0:Ev}{W:Wr}{ind:Int}{nl A s post:List Nat}{hi:AV}
variable (hw:ε0.P=w.params)(he:ε0.Ok)(hws:W.ws=true)(hin:W.ind=true)(h7:x 7=I ind)(h22:x 22=.str (.k nl))(hb:c9 W 0)(hg:nK ind nl A s post)
noncomputable def bZ(ch:Nat):AV:=.str [.lit [ch]]
def oD(v:List Nat)(hi br:AV)(st en:Int)(ch b:AV):List (Str×AV):=hJ v hi br st en ch++[(CT,b)]
def hB(a0 a1 a2 a3 a5 a6 oe:AV):Nat→AV:=(fun i=>tn a6 [a0,a1,a2,a3,oe,a5] (i-20))
include hw hws hin h7 h22 hb hg in
theorem G9(hd:d∈om) :
  aQ (ab w mg mb ε0) 150 fV.b ⟨oD v hi br i j ch (bZ d),bg⟩ (bc c x W) .next ⟨oD v hi br i j ch (bZ d),bg⟩ (bc c x (kT nl W d)):=by
 have ok:=qn;simp only [Bool.and_eq_true] at ok;have hj:(BS d).chk=true:=(aB (aB (aq ok.1 d hd)).2).2;refine(ck (v:=vW x (hB (.str (.k v)) hi br (I i) (I j) ch (.bool W.oe))) (z:=c) hw (ε:=εW ε0.P W ind nl A s post) rfl (bM _ _ _) (BS d) (jJ hb hg) ⟨rfl,(by decide:3≤12),rfl⟩ hj).cast rfl ?_ rfl rfl ?_
 ·exact fT rfl hws hin h7 h22 (af _) (aY _) (aY _) (by show AV.int (.k ((V 4).val _))=_;rw[bQ];rfl) rfl rfl rfl
 ·refine fT rfl hws hin h7 h22 ?_ rfl rfl (by show AV.int (.k ((am.k 0).val _))=_;rw[bV];rfl) rfl rfl rfl
  show SS.val _ (.var 0::Bz d)=W.T++fR nl d;unfold Bz fR;cases Nat.beq d 10
  ·rfl
  ·show W.T++(nl++[])=W.T++nl;rw[af]
include hw hws hin h7 h22 hb hg in
theorem RT(hj:(mt oc).chk=true):Yz (ab w mg mb ε0) 150 fV.it ⟨hJ (dj A s oc post) hi tr A.length (A.length+s.length) (dQ oc),bg⟩ (bc c x W) (.str [.lit s]) (bc c x W):=by
 have Y:=wW (mg:=mg) (mb:=mb) (b:=0) (v:=vW x (hW hi (.bool W.oe) fun U=>.none)) (z:=c) hw (ε:=εW ε0.P W ind nl A s post) rfl (bM _ _ _) (mt oc) (jJ hb hg) (fun U U U=>oN) rfl hj;have e1:=mM (x:=x) (c:=c) (W:=W) (ind:=ind) (nl:=nl) (A:=A) (s:=s) (post:=post) (P:=ε0.P) (h:=hW hi (.bool W.oe) fun U=>.none) (oc:=oc) (hi:=.any 20) (br:=tr) (st:=gR) (en:=d6 0) (ch:=dQ oc) (hi':=hi) (br':=tr) rfl rfl i6 ((eQ 0).trans (by rw[aY])) (mP oc) bg;have e2:=fT (x:=x) (c:=c) (W:=W) (ind:=ind) (nl:=nl) (A:=A) (s:=s) (post:=post) (P:=ε0.P) (h:=hW hi (.bool W.oe) fun U=>.none) (T:=[.var 0]) (d:=0) (dl:=0) (col:=lI 4) (W':=W) rfl hws hin h7 h22 (af _) (aY _) (aY _) (by show AV.int (.k ((V 4).val _))=_;rw[bQ];rfl) rfl rfl rfl;rw[show (mt oc).ls=⟨jf (d9 oc) (.any 20) tr gR (d6 0) (dQ oc),bg⟩ from rfl,show (mt oc).P=ej [.var 0] 0 0 (lI 4) from rfl,show (mt oc).Q=ej [.var 0] 0 0 (lI 4) from rfl,e1,e2] at Y;refine Yz.conv (Y.le (by show 10*0+0+30≤150;decide)) fun imm ρ val hv=>?_;replace hv:VR (ab w mg mb ε0) imm ρ val (.str (.k (s++[]))):=hv;exact hv.sames (by rw[db,af];exact(af s).symm) (fun p hp=>by rw[cH hp];trivial)
theorem tm:∀ {W:Wr},(cP nl W s).ws=W.ws∧(cP nl W s).ind=W.ind∧(cP nl W s).oe=W.oe∧(cP nl W s).line=W.line+s.length∧(cP nl W s).n=W.n+s.length∧((cP nl W s).col=0∨(s=[]∧(cP nl W s).col=W.col)):=by
 induction s with
 |nil=>intro W;exact⟨rfl,rfl,rfl,(aY _).symm,(aY _).symm,.inr ⟨rfl,rfl⟩⟩
 |cons a r ih=>
  intro W;apply mV (ih (W:=kT nl W a));intro a1 a2 a3 a4 a5 a6;have e:cP nl W (a::r)=cP nl (kT nl W a) r:=rfl;rw[e];refine⟨a1,a2,a3,?_,?_,.inl ?_⟩
  ·rw[a4,bb];show W.line+1+_=_;lia
  ·rw[a5,bb];show W.n+1+_=_;lia
  ·rcases a6 with q|⟨rfl,q⟩
   ·exact q
   ·exact rfl
theorem IM(nl:List Nat):∀ (s:List Nat) (W:Wr),(cP nl W s).T=W.T++s.flatMap (fR nl):=by
 intro L0;induction L0 with
 |nil=>
  intro W;exact(af _).symm
 |cons a r ih=>
  intro W;show (cP nl (kT nl W a) r).T=_;rw[ih,List.flatMap_cons,←aX];rfl
theorem Mn{nl:List Nat}(h:1≤nl.length∧nl.length≤2)(c:Nat):(fR nl c).length≤2:=by
 unfold fR;cases Nat.beq c 10
 ·show ([c]:List Nat).length≤2;simp
 ·exact h.2
theorem yM{nl:List Nat}(h:1≤nl.length∧nl.length≤2):∀ s:List Nat,(s.flatMap (fR nl)).length≤2*s.length:=by
 intro L0;induction L0 with
 |nil=>
  exact Nat.le_refl _
 |cons a r ih=>
  rw[List.flatMap_cons,ax,bb];have:=Mn h a;have:=ih;lia
theorem c9.mono{W:Wr}{K K':Int}(h:c9 W K)(hk:K'≤K):c9 W K':=⟨h.l0,by have:=h.l1;lia,h.c0,h.c1,h.n0,by have:=h.n1;lia,by have:=h.t1;lia⟩
theorem sr{W:Wr}{nl s:List Nat}(hn:1≤nl.length∧nl.length≤2){K:Int}(h:c9 W (K+s.length)):c9 (cP nl W s) K:=by
 apply mV (tm);intro _ _ _ a4 a5 a6;have t:=yM hn s;have h1:=h.l0;have h2:=h.l1;have h3:=h.c0;have h4:=h.c1;have h5:=h.n0;have h6:=h.n1;have h7:=h.t1;refine⟨by rw[a4];lia,by rw[a4];lia,?_,?_,by rw[a5];lia,by rw[a5];lia,by rw[IM,ax];push_cast;lia⟩
 ·rcases a6 with q|⟨_,q⟩<;>rw[q]<;>first|decide|exact h3
 ·rcases a6 with q|⟨_,q⟩<;>rw[q]<;>first|decide|exact h4
include hw he h7 h22 hg in
theorem K3(hr:∀ d∈r,d∈om):∀ {W:Wr} {b:AV},W.ws=true→W.ind=true→c9 W r.length →
  ∃ b',Fz (ab w mg mb ε0) 150 fV.t fV.b (.vals (r.map bZ)) ⟨oD v hi br i j ch b,bg⟩ (bc c x W) .next ⟨oD v hi br i j ch b',bg⟩ (bc c x (cP nl W r)):=by
 induction r with
 |nil=>exact fun {W b} _ _ _=>⟨b,.stop rfl⟩
 |cons d r ih=>
  intro W b h1 h2 h3;rw[bb] at h3;push_cast at h3;have hb1:c9 (kT nl W d) r.length:=sr (s:=[d]) hg.nl (h3.mono (bz _));apply bx (ih (fun e he=>hr e (.tail _ he)) (W:=kT nl W d) (b:=bZ d) h1 h2 hb1);intro b' F;refine⟨b',.step (it':=.vals (r.map bZ)) rfl (j6 hw he (show (cX [] bj 0).asg ⟨oD v hi br i j ch b,bg⟩ (bc c x W) (bZ d) fV.t=some (⟨oD v hi br i j ch (bZ d),bg⟩,bc c x W) by kernel_rfl)) (G9 hw h1 h2 h7 h22 (h3.mono (by lia)) hg (hr d (.head _))) F⟩
include hw he hws hin h7 h22 hg in
theorem M8(hj:(mt oc).chk=true)(hs:∀ d∈s,d∈om)(hb:c9 W s.length) :
  kg (ab w mg mb ε0) 150 (.For fV.t fV.it fV.b [] fV.p) ⟨hJ (dj A s oc post) hi tr A.length (A.length+s.length) (dQ oc),bg⟩ (bc c x W) .next ⟨hJ (dj A s oc post) hi tr A.length (A.length+s.length) (dQ oc),bg⟩ (bc c x (cP nl W s)):=by
 have Y:=RT (mg:=mg) (mb:=mb) (c:=c) (hi:=hi) hw hws hin h7 h22 (hb.mono (bK _)) hg hj;have hi0:sP (bc c x W) (.str [.lit s])=some (.vals (s.map bZ)):=rfl;have F:∃ L,(∀ y u,lk y (hJ (dj A s oc post) hi tr A.length (A.length+s.length) (dQ oc))=some u→lk y L.v=some u)∧L.sc=bg∧Fz (ab w mg mb ε0) 150 fV.t fV.b (.vals (s.map bZ)) ⟨hJ (dj A s oc post) hi tr A.length (A.length+s.length) (dQ oc),bg⟩ (bc c x W) .next L (bc c x (cP nl W s)):=by
  generalize dj A s oc post=v at *
  generalize (A.length:Int)+(s.length:Int)=j at *
  match s,hs,hb with
  |[],_,_=>exact⟨_,fun U U h=>h,rfl,.stop rfl⟩
  |d::r,hs,hb=>
   rw[bb] at hb;push_cast at hb;have hb1:c9 (kT nl W d) r.length:=sr (W:=W) (s:=[d]) hg.nl (hb.mono (bz _));apply bx (K3 (mg:=mg) (mb:=mb) (c:=c) (hi:=hi) (v:=v) (br:=tr) (ch:=dQ oc) (i:=A.length) (j:=j) hw he h7 h22 hg (r:=r) (fun e he=>hs e (.tail _ he)) (W:=kT nl W d) (b:=bZ d) hws hin hb1);intro b' F;refine⟨_,fun y u h=>?_,?_,.step (it':=.vals (r.map bZ)) rfl (j6 hw he (show (cX [] bj 0).asg ⟨hJ v hi tr A.length j (dQ oc),bg⟩ (bc c x W) (bZ d) fV.t=some (⟨oD v hi tr A.length j (dQ oc) (bZ d),bg⟩,bc c x W) by cases oc<;>kernel_rfl)) (G9 hw hws hin h7 h22 (hb.mono (by lia)) hg (hs d (.head _))) F⟩
   ·exact rD h
   ·rfl
 apply dh F;intro L f1 f2 F;exact Dz.post (ls1:=L) (ls0:=⟨hJ (dj A s oc post) hi tr A.length (A.length+s.length) (dQ oc),bg⟩) rfl f1 (Dz.for_ (by kernel_rfl) (by kernel_rfl) Y hi0 F)
end
end
end
section
section
section
variable {x:Nat→AV}{c:Nat→aw}{w:World}{mg mb:Str→Option Value}{ε0:Ev}{W:Wr}{ind:Int}{nl A s post:List Nat}{hi:AV}
noncomputable def rk(ind:Int)(oc:Option Nat)(W:Wr):Wr:=match oc with|some _=>ku ind W|none=>W
structure y7 (oc:Option Nat):Prop where
 pre:(sn oc).chk=true
 t1:(mD o7.1 oc).chk=true
 t2:(mD kU.1 oc).chk=true
 fl:(qD oc).chk=true
 po:(sQ oc).chk=true
 ex:(mt oc).chk=true
theorem OV(h:d∈AP):y7 (some d):=by
 have ok:=qn;simp only [Bool.and_eq_true] at ok;replace h:=aq ok.2.1 d h;simp only [Bool.and_eq_true] at h;exact⟨h.2.1,h.2.2.1,h.2.2.2.1,h.2.2.2.2.1,h.2.2.2.2.2.1,h.2.2.2.2.2.2⟩
theorem NG:y7 none:=by
 have ok:=qn;simp only [Bool.and_eq_true] at ok;have h:=ok.2.2.2;exact⟨h.1,h.2.1,h.2.2.1,h.2.2.2.1,h.2.2.2.2.1,h.2.2.2.2.2⟩
variable (hw:ε0.P=w.params)(he:ε0.Ok)(hws:W.ws=true)(hin:W.ind=true)(h7:x 7=I ind)(h22:x 22=.str (.k nl))(hg:nK ind nl A s post)
include hw hws hin h7 h22 hg
theorem S4(hj:(sn oc).chk=true)(hb:c9 W 0):aQ (ab w mg mb ε0) 150 (aP 2 dZ.b) ⟨gV (dj A s oc post) hi tr A.length (A.length+s.length),bg⟩ (bc c x W) .next ⟨hJ (dj A s oc post) hi tr A.length (A.length+s.length) (dQ oc),bg⟩ (bc c x W):=by
 refine(ck (v:=vW x (hW hi (.bool W.oe) fun U=>.none)) (z:=c) hw (ε:=εW ε0.P W ind nl A s post) rfl (bM _ _ _) (sn oc) (jJ hb hg) ⟨rfl,(by decide:3≤12),rfl⟩ hj).cast ?_ ?_ rfl ?_ ?_
 ·exact me rfl rfl i6 ((eQ 0).trans (by rw[aY])) bg
 ·exact fT rfl hws hin h7 h22 (af _) (aY _) (aY _) (by show AV.int (.k ((V 4).val _))=_;rw[bQ];rfl) rfl rfl rfl
 ·exact mM rfl rfl i6 ((eQ 0).trans (by rw[aY])) (mP oc) bg
 ·exact fT rfl hws hin h7 h22 (af _) (aY _) (aY _) (by show AV.int (.k ((V 4).val _))=_;rw[bQ];rfl) rfl rfl rfl
theorem Hu(hj:(mD e oc).chk=true)(hb:c9 W 0):Tz (ab w mg mb ε0) 150 e ⟨hJ (dj A s oc post) hi tr A.length (A.length+s.length) (dQ oc),bg⟩ (bc c x W) true (bc c x W):=by
 have e2:=fT (x:=x) (c:=c) (W:=W) (ind:=ind) (nl:=nl) (A:=A) (s:=s) (post:=post) (P:=ε0.P) (h:=hW hi (.bool W.oe) fun U=>.none) (T:=[.var 0]) (d:=0) (dl:=0) (col:=lI 4) (W':=W) rfl hws hin h7 h22 (af _) (aY _) (aY _) (by show AV.int (.k ((V 4).val _))=_;rw[bQ];rfl) rfl rfl rfl;exact(t7 (mg:=mg) (mb:=mb) (v:=vW x (hW hi (.bool W.oe) fun U=>.none)) (z:=c) hw (ε:=εW ε0.P W ind nl A s post) rfl (bM _ _ _) (mD e oc) (jJ hb hg) hj).cast (mM (oc:=oc) rfl rfl i6 ((eQ 0).trans (by rw[aY])) (mP oc) bg) e2 e2
theorem QN(hj:(qD oc).chk=true)(hb:c9 W 0)(h0:W.col=0):aQ (ab w mg mb ε0) 150 (bk 1 kU.2.1) ⟨hJ (dj A s oc post) hi tr A.length (A.length+s.length) (dQ oc),bg⟩ (bc c x W) .next ⟨hJ (dj A s oc post) hi tr (A.length+s.length) (A.length+s.length) (dQ oc),bg⟩ (bc c x (rk ind oc W)):=by
 have c0:∀ h,flA (ai (εW ε0.P W ind nl A s post) (vW x h) c) (I 0)=I W.col:=fun h=>by rw[h0];show AV.int (.k ((am.k 0).val _))=_;rw[bV];rfl
 cases oc with
 |none=>
  refine(ck (v:=vW x (hW hi (.bool W.oe) fun U=>.none)) (z:=c) hw (ε:=εW ε0.P W ind nl A s post) rfl (bM _ _ _) (qD none) (jJ hb hg) ⟨rfl,(by decide:3≤12),rfl⟩ hj).cast ?_ ?_ rfl ?_ ?_
  ·exact mM (oc:=none) rfl rfl i6 ((eQ 0).trans (by rw[aY])) (mP none) bg
  ·exact fT rfl hws hin h7 h22 (af _) (aY _) (aY _) (c0 _) rfl rfl rfl
  ·exact mM (oc:=none) rfl rfl ((eQ 0).trans (by rw[aY])) ((eQ 0).trans (by rw[aY])) (mP none) bg
  ·exact fT (W':=W) rfl hws hin h7 h22 (af _) (aY _) (aY _) (c0 _) rfl rfl rfl
 |some d=>
  refine(ck (v:=vW x (hW hi (.bool W.oe) fun U=>.none)) (z:=c) hw (ε:=εW ε0.P W ind nl A s post) rfl (bM _ _ _) (qD (some d)) (jJ hb hg) ⟨rfl,(by decide:3≤12),rfl⟩ hj).cast ?_ ?_ rfl ?_ ?_
  ·exact mM (oc:=some d) rfl rfl i6 ((eQ 0).trans (by rw[aY])) (mP (some d)) bg
  ·exact fT rfl hws hin h7 h22 (af _) (aY _) (aY _) (c0 _) rfl rfl rfl
  ·exact mM (oc:=some d) rfl rfl ((eQ 0).trans (by rw[aY])) ((eQ 0).trans (by rw[aY])) (mP (some d)) bg
  ·refine fT (W':=ku ind W) rfl hws hin h7 h22 ?_ rfl (aY _) (by show AV.int (.k ((V 6).val _))=_;rw[bQ];rfl) rfl rfl rfl
   show W.T++(List.replicate ((V 6).val _).toNat 32++[])=W.T++List.replicate ind.toNat 32;rw[bQ,af];rfl
theorem Sf(hj:(sQ oc).chk=true)(hb:c9 W 0):aQ (ab w mg mb ε0) 150 (bk 3 dZ.b) ⟨hJ (dj A s oc post) hi tr A.length (A.length+s.length) (dQ oc),bg⟩ (bc c x W) .next ⟨gV (dj A s oc post) hi (.bool oc.isNone) A.length (A.length+s.length+1),bg⟩ (bc c x W):=by
 refine(ck (v:=vW x (hW hi (.bool W.oe) fun U=>.none)) (z:=c) hw (ε:=εW ε0.P W ind nl A s post) rfl (bM _ _ _) (sQ oc) (jJ hb hg) ⟨rfl,(by decide:3≤12),rfl⟩ hj).cast ?_ ?_ rfl ?_ ?_
 ·exact mM rfl rfl i6 ((eQ 0).trans (by rw[aY])) (mP oc) bg
 ·exact fT rfl hws hin h7 h22 (af _) (aY _) (aY _) (by show AV.int (.k ((V 4).val _))=_;rw[bQ];rfl) rfl rfl rfl
 ·exact me rfl rfl i6 (eQ 1) bg
 ·exact fT rfl hws hin h7 h22 (af _) (aY _) (aY _) (by show AV.int (.k ((V 4).val _))=_;rw[bQ];rfl) rfl rfl rfl
theorem w3(hj:(tA oc d b).chk=true)(hb:c9 W 0):Tz (ab w mg mb ε0) 150 dZ.t ⟨gV (dj A s oc post) hi br i (A.length+s.length+d),bg⟩ (bc c x W) b (bc c x W):=by
 have e2:=fT (x:=x) (c:=c) (W:=W) (ind:=ind) (nl:=nl) (A:=A) (s:=s) (post:=post) (P:=ε0.P) (h:=hW hi (.bool W.oe) (fun q=>tn (I i) [br] (q-21))) (T:=[.var 0]) (d:=0) (dl:=0) (col:=lI 4) (W':=W) rfl hws hin h7 h22 (af _) (aY _) (aY _) (by show AV.int (.k ((V 4).val _))=_;rw[bQ];rfl) rfl rfl rfl;exact(t7 (mg:=mg) (mb:=mb) (v:=vW x (hW hi (.bool W.oe) (fun q=>tn (I i) [br] (q-21)))) (z:=c) hw (ε:=εW ε0.P W ind nl A s post) rfl (bM _ _ _) (tA oc d b) (jJ hb hg) hj).cast (me (oc:=oc) rfl rfl rfl (eQ d) bg) e2 e2
include he in
theorem Cp(ho:y7 oc)(hs:∀ d∈s,d∈om)(hb:c9 W (s.length+1))(h0:s=[]→W.col=0) :
  aQ (ab w mg mb ε0) 150 dZ.b ⟨gV (dj A s oc post) hi tr A.length (A.length+s.length),bg⟩ (bc c x W) .next ⟨gV (dj A s oc post) hi (.bool oc.isNone) (A.length+s.length) (A.length+s.length+1),bg⟩ (bc c x (rk ind oc (cP nl W s))):=by
 apply mV (tm (nl:=nl) (s:=s) (W:=W));intro a1 a2 a3 a4 a5 a6;have hb1:c9 (cP nl W s) 1:=sr hg.nl (hb.mono (by lia));have c0:(cP nl W s).col=0:=by rcases a6 with q|⟨q,q2⟩;exact q;rw[q2];exact h0 q
 have b0:c9 W 0:=hb.mono (by lia);have D2:=M8 (mg:=mg) (mb:=mb) (c:=c) (hi:=hi) hw he hws hin h7 h22 hg ho.ex hs (hb.mono (by lia));have D3:=QN (mg:=mg) (mb:=mb) (c:=c) (hi:=hi) (W:=cP nl W s) hw (a1.trans hws) (a2.trans hin) h7 h22 hg ho.fl (hb1.mono (by decide)) c0;have e1:(rk ind oc (cP nl W s)).ws=true:=by cases oc<;>exact a1.trans hws
 have e2:(rk ind oc (cP nl W s)).ind=true:=by cases oc<;>exact a2.trans hin
 have hi2:=hg.i;have hb2:c9 (rk ind oc (cP nl W s)) 0:=by
  cases oc with
  |none=>exact hb1.mono (by decide)
  |some d=>
   have q1:=hb1.l0;have q2:=hb1.l1;have q3:=hb1.n0;have q4:=hb1.n1;have q5:=hb1.t1;exact⟨q1,by show (cP nl W s).line+0≤_;lia,by show 0≤ind;lia,by show ind≤_;lia,by show 0≤(cP nl W s).n+1;lia,by show (cP nl W s).n+1+0≤_;lia,by show (((cP nl W s).T++List.replicate ind.toNat 32).length:Int)+_≤_;rw[ax,List.length_replicate];push_cast;lia⟩
 have g2:nK ind nl (A++s) [] post:=⟨hg.i,hg.nl,by rw[ax];have:=hg.v;show A.length+s.length+0+post.length≤400;lia⟩;have D4:=Sf (mg:=mg) (mb:=mb) (c:=c) (hi:=hi) (W:=rk ind oc (cP nl W s)) hw e1 e2 h7 h22 g2 ho.po hb2;have ev:dj (A++s) [] oc post=dj A s oc post:=by
  cases oc with
  |none=>exact af _
  |some d=>show (A++s)++([]++d::post)=A++(s++d::post);rw[List.nil_append,aX]
 have el:((A++s).length:Int)=A.length+s.length:=by rw[ax];push_cast;rfl
 rw[ev,el,show ((([]:List Nat).length:Nat):Int)=0 from rfl,aY] at D4;rw[Lh];exact(S4 (mg:=mg) (mb:=mb) (c:=c) (hi:=hi) hw hws hin h7 h22 hg ho.pre b0).append ((Dz.if_ (Hu hw hws hin h7 h22 hg ho.t1 b0) (Dz.one (Dz.if_ (Hu hw hws hin h7 h22 hg ho.t2 b0) (Dz.cons D2 D3)))).cons D4)
end
end
end
section
section
section
variable {x:Nat→AV}{c:Nat→aw}{w:World}{mg mb:Str→Option Value}{ε0:Ev}{ind:Int}{nl:List Nat}{hi:AV}
noncomputable def cA(nl:List Nat)(ind:Int):List Nat→Bool→List Nat→List Nat×Int×Int
 |[],true,s=>(s.flatMap (fR nl),s.length,s.length)
 |[],false,s=>(s++nl,1,2)
 |c::r,true,s=>Bool.rec (s.flatMap (fR nl)++(List.replicate ind.toNat 32++(cA nl ind r false [c]).1),s.length+(cA nl ind r false [c]).2.1,s.length+1+(cA nl ind r false [c]).2.2) (cA nl ind r true (s++[c])) (aC c)
 |c::r,false,s=>Bool.rec (cA nl ind r false (s++[c])) (s++(cA nl ind r true [c]).1,(cA nl ind r true [c]).2.1,1+(cA nl ind r true [c]).2.2) (aC c)
noncomputable def Wr.adv(W:Wr)(p:List Nat×Int×Int):Wr:={W with T:=W.T++p.1,line:=W.line+p.2.1,n:=W.n+p.2.2,col:=0}
theorem FD{W:Wr}(h:s=[]→W.col=0):cP nl W s={W with T:=W.T++s.flatMap (fR nl),line:=W.line+s.length,n:=W.n+s.length,col:=0}:=by
 apply mV (tm);intro a1 a2 a3 a4 a5 a6;have aT:=IM nl s W;replace a6:(cP nl W s).col=0:=by rcases a6 with q|⟨q,q2⟩;exact q;rw[q2];exact h q
 generalize cP nl W s=Z at *
 obtain⟨z1,z2,z3,z4,z5,z6,z7⟩:=Z;dsimp only at *
 subst a1;subst a2;subst a3;subst a4;subst a5;subst a6;subst aT;rfl
theorem t5:∀ (post:List Nat) (br:Bool) (s:List Nat) (W:Wr),(br=true→s=[]→W.col=0)→gI nl ind post br s W=W.adv (cA nl ind post br s)
 |[],true,s,W,h=>FD (h rfl)
 |[],false,s,W,_=>rfl
 |c::r,true,s,W,h=>by
  show Bool.rec (motive:=fun U=>Wr) (gI nl ind r false [c] (ku ind (cP nl W s))) (gI nl ind r true (s++[c]) W) (aC c)=W.adv (Bool.rec (motive:=fun U=>List Nat×Int×Int) _ _ (aC c));cases aC c with
  |true=>exact t5 r true (s++[c]) W (fun U e=>by simp at e)
  |false=>
   show gI nl ind r false [c] (ku ind (cP nl W s))=_;rw[t5 r false [c] _ nofun,FD (h rfl)];unfold Wr.adv ku;dsimp only;simp only [aX,Int.add_assoc]
 |c::r,false,s,W,_=>by
  show Bool.rec (motive:=fun U=>Wr) (gI nl ind r false (s++[c]) W) (gI nl ind r true [c] {W with T:=W.T++s,n:=W.n+1}) (aC c)=W.adv (Bool.rec (motive:=fun U=>List Nat×Int×Int) _ _ (aC c));cases aC c with
  |false=>exact t5 r false (s++[c]) W nofun
  |true=>
   show gI nl ind r true [c] {W with T:=W.T++s,n:=W.n+1}=_;rw[t5 r true [c] _ (fun U e=>by simp at e)];unfold Wr.adv;dsimp only;simp only [aX,Int.add_assoc]
structure yn (p:List Nat×Int×Int) (K:Int):Prop where
 t:(p.1.length:Int)≤50*K
 l0:0≤p.2.1
 l1:p.2.1≤K
 n0:0≤p.2.2
 n1:p.2.2≤K
theorem tV(hn:1≤nl.length∧nl.length≤2)(hi:2≤ind∧ind≤40):∀ (post:List Nat) (br:Bool) (s:List Nat),yn (cA nl ind post br s) (2*post.length+s.length+4)
 |[],true,s=>by
  have:=yM hn s;have z:(([]:List Nat).length:Int)=0:=rfl;exact⟨by rw[z];show ((s.flatMap (fR nl)).length:Int)≤_;lia,bK _,by rw[z];show (s.length:Int)≤_;lia,bK _,by rw[z];show (s.length:Int)≤_;lia⟩
 |[],false,s=>by
  have z:(([]:List Nat).length:Int)=0:=rfl;have p1:(0:Int)≤1:=by decide
  have p2:(0:Int)≤2:=by decide
  exact⟨by rw[z];show ((s++nl).length:Int)≤_;rw[ax];push_cast;lia,p1,by rw[z];show (1:Int)≤_;lia,p2,by rw[z];show (2:Int)≤_;lia⟩
 |c::r,true,s=>by
  show yn (Bool.rec (motive:=fun U=>List Nat×Int×Int) _ _ (aC c)) _;cases aC c with
  |true=>
   have h:=tV hn hi r true (s++[c]);rw[ax] at h;exact⟨Int.le_trans h.t (by simp;lia),h.l0,Int.le_trans h.l1 (by simp;lia),h.n0,Int.le_trans h.n1 (by simp;lia)⟩
  |false=>
   have h:=tV hn hi r false [c];have t:=yM hn s;have h1:=h.t;have h2:=h.l1;have h3:=h.n1;have h4:=h.l0;have h5:=h.n0;simp only [bb,List.length_nil] at h1 h2 h3;refine⟨?_,?_,?_,?_,?_⟩
   ·show ((s.flatMap (fR nl)++(List.replicate ind.toNat 32++(cA nl ind r false [c]).1)).length:Int)≤_
    rw[ax,ax,List.length_replicate,bb];push_cast;lia
   ·show 0≤(s.length:Int)+(cA nl ind r false [c]).2.1;lia
   ·show (s.length:Int)+(cA nl ind r false [c]).2.1≤_;rw[bb];push_cast;lia
   ·show 0≤(s.length:Int)+1+(cA nl ind r false [c]).2.2;lia
   ·show (s.length:Int)+1+(cA nl ind r false [c]).2.2≤_;rw[bb];push_cast;lia
 |c::r,false,s=>by
  show yn (Bool.rec (motive:=fun U=>List Nat×Int×Int) _ _ (aC c)) _;cases aC c with
  |false=>
   have h:=tV hn hi r false (s++[c]);rw[ax] at h;exact⟨Int.le_trans h.t (by simp;lia),h.l0,Int.le_trans h.l1 (by simp;lia),h.n0,Int.le_trans h.n1 (by simp;lia)⟩
  |true=>
   have h:=tV hn hi r true [c];have h1:=h.t;have h2:=h.l1;have h3:=h.n1;have h4:=h.l0;have h5:=h.n0;simp only [bb,List.length_nil] at h1 h2 h3;refine⟨?_,h4,?_,?_,?_⟩
   ·show ((s++(cA nl ind r true [c]).1).length:Int)≤_
    rw[ax,bb];push_cast;lia
   ·show (cA nl ind r true [c]).2.1≤_;rw[bb];push_cast;lia
   ·show 0≤1+(cA nl ind r true [c]).2.2;lia
   ·show 1+(cA nl ind r true [c]).2.2≤_;rw[bb];push_cast;lia
theorem Wz.post{ls ls1 ls0:ac}(hs:ls0.sc=ls.sc)(h:∀ x v,lk x ls0.v=some v→lk x ls1.v=some v)(H:Wz Γ n t b ls σ ls1 σ1):Wz Γ n t b ls σ ls0 σ1:=⟨by
 intro c A s m imm cs Rq C l R k;exact H.h C l R fun h' tk m' imm' cs' fl R' l' x' f'=>k h' tk m' imm' cs' fl ⟨R'.F,R'.N,R'.nd,R'.C,fun x v hx=>R'.l x v (h x v hx)⟩ ⟨hs▸l.sc,fun x v hx=>l'.lo x v (h x v hx),l'.nd⟩ x' f'⟩
theorem QY{Z:Wr}{K:Int}(hi2:2≤ind∧ind≤40)(h:c9 Z (K+1)):c9 (ku ind Z) K:=by
 have q1:=h.l0;have q2:=h.l1;have q3:=h.n0;have q4:=h.n1;have q5:=h.t1;obtain⟨z1,z2,z3,z4,z5,z6,z7⟩:=Z;dsimp only at q1 q2 q3 q4 q5;refine⟨q1,?_,?_,?_,?_,?_,?_⟩
 ·show z1+K≤100000;lia
 ·show 0≤ind;lia
 ·show ind≤100000;lia
 ·show 0≤z3+1;lia
 ·show z3+1+K≤100000;lia
 ·show ((z4++List.replicate ind.toNat 32).length:Int)+50*K≤100000
  rw[ax,List.length_replicate];push_cast;lia
variable (hw:ε0.P=w.params)(he:ε0.Ok)(h7:x 7=I ind)(h22:x 22=.str (.k nl))(hn:1≤nl.length∧nl.length≤2)(hi2:2≤ind∧ind≤40)
include hw he h7 h22 hn hi2
theorem N8:∀ (post A:List Nat) (br:Bool) (s:List Nat) (W:Wr),W.ws=true→W.ind=true→(∀ d∈post,d∈aZ)→A.length+s.length+post.length≤400→(br=true→(∀ d∈s,d∈om)∧(s=[]→W.col=0))→c9 W (2*post.length+s.length+4) →
  Wz (ab w mg mb ε0) 150 dZ.t dZ.b ⟨gV (A++(s++post)) hi (.bool br) A.length (A.length+s.length),bg⟩ (bc c x W) ⟨[],bg⟩ (bc c x (gI nl ind post br s W)):=by
 intro L0;induction L0 with
 |nil=>
  intro A br s W hws hin _ hl hc hb;have g:nK ind nl A s []:=⟨hi2,hn,hl⟩;have z0:(([]:List Nat).length:Int)=0:=rfl;rw[z0] at hb;have b0:c9 W 0:=hb.mono (by lia);have tt:=Eg;simp only [Bool.and_eq_true] at tt;have T1:=w3 (mg:=mg) (mb:=mb) (c:=c) (hi:=hi) (br:=.bool br) (i:=A.length) hw hws hin h7 h22 g tt.2.1 b0;rw[aY] at T1;rw[af];refine Wz.post (ls1:=⟨gV (A++s) hi (.bool br) (A.length+s.length) (A.length+s.length+1),bg⟩) rfl (fun U U h=>by injection h) ?_;cases br with
  |true=>
   apply aN (hc rfl);intro h1 h2;have D:=Cp (mg:=mg) (mb:=mb) (c:=c) (hi:=hi) (oc:=none) hw he hws hin h7 h22 g NG h1 (hb.mono (by lia)) h2;apply mV (tm);intro a1 a2 a3 a4 a5 a6;have hb1:c9 (cP nl W s) 0:=sr hn (hb.mono (by lia));exact Wz.go T1 D (Wz.stop (w3 (oc:=none) (br:=tr) (i:=A.length+s.length) hw (a1.trans hws) (a2.trans hin) h7 h22 g tt.2.2 hb1))
  |false=>
   have D:=N9 (mg:=mg) (mb:=mb) (c:=c) (hi:=hi) hw hws hin h7 h22 b0 g;have q1:=hb.l0;have q2:=hb.l1;have q3:=hb.n0;have q4:=hb.n1;have q5:=hb.t1;have hb1:c9 {W with T:=W.T++(s++nl),line:=W.line+1,n:=W.n+2,col:=0} 0:=⟨by show 0≤W.line+1;lia,by show W.line+1+0≤_;lia,bz _,(by decide:(0:Int)≤100000),by show 0≤W.n+2;lia,by show W.n+2+0≤_;lia,by show ((W.T++(s++nl)).length:Int)+_≤_;rw[ax,ax];push_cast;lia⟩;exact Wz.go T1 D (Wz.stop (w3 (W:={W with T:=W.T++(s++nl),line:=W.line+1,n:=W.n+2,col:=0}) (oc:=none) (br:=ff) (i:=A.length+s.length) hw hws hin h7 h22 g tt.2.2 hb1))
 |cons d r ih=>
  intro A br s W hws hin ha hl hc hb;rw[bb] at hl hb;push_cast at hb;have g:nK ind nl A s r:=⟨hi2,hn,by lia⟩;have b0:c9 W 0:=hb.mono (by lia);have tt:=Eg;simp only [Bool.and_eq_true] at tt;have hd:=ha d (.head _);have T1:=w3 (mg:=mg) (mb:=mb) (c:=c) (hi:=hi) (br:=.bool br) (i:=A.length) hw hws hin h7 h22 g (aq tt.1 d hd) b0;rw[aY] at T1;have ev1:A++((s++[d])++r)=dj A s (some d) r:=by show A++((s++[d])++r)=A++(s++d::r);rw[aX];rfl
  have ev2:(A++s)++([d]++r)=dj A s (some d) r:=by show (A++s)++(d::r)=A++(s++d::r);rw[aX]
  have el1:(A.length:Int)+((s++[d]).length:Int)=A.length+s.length+1:=by rw[ax];push_cast;show _+(_+(1:Int))=_;lia
  have el2:((A++s).length:Int)=A.length+s.length:=by rw[ax];push_cast;rfl
  have lA:(A++s).length+[d].length+r.length≤400:=by rw[ax];show A.length+s.length+1+r.length≤400;lia
  have lS:A.length+(s++[d]).length+r.length≤400:=by rw[ax];show A.length+(s.length+1)+r.length≤400;lia
  cases br with
  |true=>
   apply aN (hc rfl);intro h1 h2;show Wz _ _ _ _ _ _ _ (bc c x (Bool.rec (motive:=fun U=>Wr) (gI nl ind r false [d] (ku ind (cP nl W s))) (gI nl ind r true (s++[d]) W) (aC d)));cases hB:aC d with
   |true=>
    have D:=DO (mg:=mg) (mb:=mb) (c:=c) (hi:=hi) hw hws hin h7 h22 b0 g hd hB;have R:=ih A true (s++[d]) W hws hin (fun e he=>ha e (.tail _ he)) lS (fun U=>⟨fun e he=>(ey he).elim (h1 e) fun q=>by rw[cH q];exact uY hd hB,fun e=>by simp at e⟩) (hb.mono (by rw[ax];push_cast;show _+(_+(1:Int))+4≤_;lia));rw[ev1,el1] at R;exact Wz.go T1 D R
   |false=>
    have D:=Cp (mg:=mg) (mb:=mb) (c:=c) (hi:=hi) (oc:=some d) hw he hws hin h7 h22 g (OV (Gg hd hB)) h1 (hb.mono (by lia)) h2;apply mV (tm);intro a1 a2 a3 a4 a5 a6;have hb1:c9 (cP nl W s) (2*r.length+6):=sr hn (hb.mono (by lia));have hb2:c9 (ku ind (cP nl W s)) (2*r.length+5):=QY hi2 (hb1.mono (by lia));have R:=ih (A++s) false [d] (ku ind (cP nl W s)) (a1.trans hws) (a2.trans hin) (fun e he=>ha e (.tail _ he)) lA nofun (hb2.mono (by show 2*(r.length:Int)+1+4≤_;lia));rw[ev2,el2] at R;exact Wz.go T1 D R
  |false=>
   show Wz _ _ _ _ _ _ _ (bc c x (Bool.rec (motive:=fun U=>Wr) (gI nl ind r false (s++[d]) W) (gI nl ind r true [d] {W with T:=W.T++s,n:=W.n+1}) (aC d)));cases hB:aC d with
   |false=>
    have D:=DO (mg:=mg) (mb:=mb) (c:=c) (hi:=hi) hw hws hin h7 h22 b0 g hd hB;have R:=ih A false (s++[d]) W hws hin (fun e he=>ha e (.tail _ he)) lS nofun (hb.mono (by rw[ax];push_cast;show _+(_+(1:Int))+4≤_;lia));rw[ev1,el1] at R;exact Wz.go T1 D R
   |true=>
    have D:=Mx (mg:=mg) (mb:=mb) (c:=c) (hi:=hi) hw hws hin h7 h22 b0 g hd hB;have hb1:c9 {W with T:=W.T++s,n:=W.n+1} (2*r.length+5):=⟨hb.l0,by have:=hb.l1;show W.line+_≤_;lia,hb.c0,hb.c1,by have:=hb.n0;show 0≤W.n+1;lia,by have:=hb.n1;show W.n+1+_≤_;lia,by have:=hb.t1;show ((W.T++s).length:Int)+_≤_;rw[ax];push_cast;lia⟩;have R:=ih (A++s) true [d] {W with T:=W.T++s,n:=W.n+1} hws hin (fun e he=>ha e (.tail _ he)) lA (fun U=>⟨fun e he=>by rw[cH he];exact uY hd hB,fun e=>by simp at e⟩) (hb1.mono (by show 2*(r.length:Int)+1+4≤_;lia));rw[ev2,el2] at R;exact Wz.go T1 D R
end
end
end
section
section
def kx:List Stmt:=(cM 711).body
def fg:List (Str×NameKind):=(cM 711).sc
def lH:Expr×List Stmt×List Stmt:=Bt kx 1
def th(b:AV):St:=aS zL (xS [(20,b)])
def eO(tx:SS)(h:SS):List (Str×AV):=[(aJ,.cell 5),(dg,.str tx),(jG,.str h)]
noncomputable def βH:Bd:=[(0,0),(0,0),(0,0),(0,0),(0,0),(0,400),(0,0),(0,400),(0,0),(0,0),(0,0),(0,0),(0,0),(0,3)]
def wB(ss:List Stmt)(ls:List (Str×AV))(b:AV)(f:Fl)(k:Nat)(out:List (Str×AV)):bO:=⟨βH,bj,1,[],⟨ls,fg⟩,th b,ss,f,k,out,th b⟩
noncomputable def fN:List Nat:=[2,3,4,9]
def dI(best c:Nat):List Nat:=Bool.rec [] [best+48] (aK c [32,10,133,8232,8233])
def Hv:bO:=wB (aP 1 kx) [(aJ,.cell 5),(dg,.str [.var 2])] (.any 50) .next 3 (eO [.var 2] [])
def DK(best c:Nat):bO:=wB (aP 1 lH.2.1) (eO [.lit [c],.var 3] []) (I best) .next 3 (eO [.lit [c],.var 3] (.k (dI best c)))
def DG(c:Nat):nf:=⟨βH,⟨eO [.lit [c],.var 3] [],fg⟩,th (.any 50),lH.1,true⟩
def sw(tx:SS)(e:SS):bO:=wB (bk 1 lH.2.1) (eO tx [.var 6]) (.any 50) .next 3 (eO tx (.var 6::e))
def DT:bO:=wB (bk 2 kx) (eO [.var 2] [.var 6]) (.any 50) (.ret (.str [.var 6])) 0 []
theorem HC:((aZ.all fun c=>(DG c).chk&&(fN.all fun b=>(DK b c).chk))&&((aZ.all fun e=>Bool.rec (sw [.var 2,.lit [e]] [.lit [45]]).chk ((sw [.lit [e]] [.lit [43]]).chk&&(aZ.all fun d=>(sw [.var 2,.lit [d,e]] (Bool.rec [] [.lit [43]] (aC d))).chk)) (aC e))&&(Hv.chk&&DT.chk)))=true:=by kernel_rfl
def fm(v:List Nat):List Nat:=match v.reverse with
 |[]=>[]
 |e::r=>Bool.rec [45] (match r with|[]=>[43]|d::_=>Bool.rec [] [43] (aC d)) (aC e)
def cI(best:Nat)(v:List Nat):List Nat:=match v with|[]=>[]|c::_=>dI best c++fm v
theorem Ox(hv:v≠[])(ha:∀ c∈v,c∈aZ):∃ (tx:SS) (e:SS) (A:List Nat),(sw tx e).chk=true∧A.length≤v.length∧(∀ P i t,t 2=A→tx.val (dz P i t)=v)∧(∀ ε,e.val ε=fm v):=by
 have ok:=HC;simp only [Bool.and_eq_true] at ok;replace ok:=ok.2.1;obtain⟨m,e,rfl⟩ : ∃ m e,v=m++[e]:=⟨v.dropLast,v.getLast hv,(List.dropLast_concat_getLast hv).symm⟩;have he:=aq ok e (ha e (cS _ (.head _)));have hE:fm (m++[e])=Bool.rec [45] (match m.reverse with|[]=>[43]|d::_=>Bool.rec [] [43] (aC d)) (aC e):=by
  unfold fm;rw[List.reverse_append];rfl
 cases hB:aC e with
 |false=>
  rw[hB] at he hE;exact⟨_,_,m,he,by simp,fun P i t ht=>by show t 2++([e]++[])=_;rw[ht];rfl,fun ε=>by rw[hE];rfl⟩
 |true=>
  rw[hB] at he hE;replace he:=aB he
  by_cases hm:m=[]
  ·subst hm
   exact⟨_,_,[],he.1,by simp,fun P i t U=>rfl,fun ε=>by rw[hE];rfl⟩
  ·obtain⟨m',d,rfl⟩ : ∃ m' d,m=m'++[d]:=⟨m.dropLast,m.getLast hm,(List.dropLast_concat_getLast hm).symm⟩
   have hd:=aq he.2 d (ha d (bq _ (cS _ (.head _))));refine⟨_,_,m',hd,by simp,fun P i t ht=>by show t 2++([d,e]++[])=_;rw[ht,aX];rfl,fun ε=>?_⟩;rw[hE,List.reverse_append];show SS.val ε (Bool.rec [] [.lit [43]] (aC d))=Bool.rec [] [43] (aC d);cases aC d<;>rfl
section
variable {x:Nat→AV}{z:Nat→aw}{w:World}{mg mb:Str→Option Value}{ε0:Ev}{best:Nat}
def jM(P:Params)(A post h:List Nat):Ev:=dz P (fun U=>0) (tn [] [[],[],A,post,[],[],h])
theorem nJ{A post h:List Nat}(h1:A.length≤400)(h2:post.length≤400)(h3:h.length≤3):aM βH (jM P A post h):=gx (by
 have e0:∀ a:Int,a≤a:=fun U=>bz _;exact⟨⟨e0 0,e0 0⟩,⟨e0 0,e0 0⟩,⟨e0 0,e0 0⟩,⟨e0 0,e0 0⟩,⟨e0 0,e0 0⟩,⟨bK _,by show (A.length:Int)≤400;lia⟩,⟨e0 0,e0 0⟩,⟨bK _,by show (post.length:Int)≤400;lia⟩,⟨e0 0,e0 0⟩,⟨e0 0,e0 0⟩,⟨e0 0,e0 0⟩,⟨e0 0,e0 0⟩,⟨e0 0,e0 0⟩,⟨bK _,by show (h.length:Int)≤3;lia⟩,trivial⟩)
theorem ka(hb:flA (ai ε (vW x h) z) b=x 20):bC (ai ε (vW x h) z) (th b)=aS z x:=by
 have e1:bC (ai ε (vW x h) z) (th b)=[z 0,z 1,z 2,z 3,z 4,eF (fun i=>flA (ai ε (vW x h) z) (xS [(20,b)] i)),z 6,z 7,z 8,z 9]:=rfl;rw[e1,Os (y:=x) (fun i=>tR (fun p hp=>by rw[cH hp];exact hb) i)];rfl
theorem Su:eD 711 gL=some (cM 711):=by kernel_rfl
theorem J6:kx=aP 1 kx++(.If lH.1 (aP 1 lH.2.1++bk 1 lH.2.1) [] (x7 kx 1)::bk 2 kx):=by kernel_rfl
theorem xB(best c:Nat):(dI best c).length≤1:=by unfold dI;cases aK c [32,10,133,8232,8233]<;>simp
set_option tactic.hygienic true in
theorem x6(v:List Nat):(fm v).length≤1:=by
 unfold fm
 split
 ·simp
 ·rename_i e r _
  cases aC e with
  |false=>simp
  |true=>
   split
   ·simp
   ·rename_i d _ _;cases aC d<;>simp
theorem JM(hw:ε0.P=w.params)(he:ε0.Ok)(hb:best∈fN)(hx:x 20=I best)(hv:v≠[])(ha:∀ c∈v,c∈aZ)(hl:v.length≤400) :
  fnIn (cE w.params) 711=true∧Rz (ab w mg mb ε0) 155 (aS z x) 711 [.cell 5,.str (.k v)] (.str (.k (cI best v))) (aS z x):=by
 have ok:=HC;simp only [Bool.and_eq_true] at ok;obtain⟨c,r,rfl⟩ : ∃ c r,v=c::r:=by cases v with|nil=>exact absurd rfl hv|cons c r=>exact⟨c,r,rfl⟩
 have hc:=aB (aq ok.1 c (ha c (.head _)));have hr:r.length≤400:=by rw[bb] at hl;lia
 have x20:∀ ε h,flA (ai ε (vW x h) z) (.any 50)=x 20:=fun ε h=>Bw x h 20;have D0:aQ (ab w mg mb ε0) 150 (aP 1 kx) ⟨[(aJ,.cell 5),(dg,.str (.k (c::r)))],fg⟩ (aS z x) .next ⟨eO (.k (c::r)) [],fg⟩ (aS z x):=by
  refine(ck (v:=vW x fun U=>.none) hw (ε:=jM ε0.P (c::r) [] []) rfl (bM _ _ _) Hv (nJ hl (by decide) (by decide)) ⟨rfl,(by decide:1≤12),rfl⟩ ok.2.2.1).cast ?_ (ka (x20 _ _)) rfl ?_ (ka (x20 _ _))
  ·show (⟨[(aJ,AV.cell 5),(dg,AV.str (.k ((c::r)++[])))],fg⟩ : ac)=_;rw[af]
  ·show (⟨eO (.k ((c::r)++[])) (.k []),fg⟩ : ac)=_;rw[af];rfl
 have T0:Tz (ab w mg mb ε0) 150 lH.1 ⟨eO (.k (c::r)) [],fg⟩ (aS z x) true (aS z x):=by
  refine(t7 (v:=vW x fun U=>.none) hw (ε:=jM ε0.P [] r []) rfl (bM _ _ _) (DG c) (nJ (by decide) hr (by decide)) hc.1).cast ?_ (ka (x20 _ _)) (ka (x20 _ _));show (⟨eO (.k ([c]++(r++[]))) (.k []),fg⟩ : ac)=_;rw[af];rfl
 have DA:aQ (ab w mg mb ε0) 150 (aP 1 lH.2.1) ⟨eO (.k (c::r)) [],fg⟩ (aS z x) .next ⟨eO (.k (c::r)) (.k (dI best c)),fg⟩ (aS z x):=by
  have hj:=aq hc.2 best hb;have b20:∀ ε h,flA (ai ε (vW x h) z) (I best)=x 20:=fun ε h=>by rw[hx];show AV.int (.k ((am.k best).val _))=_;rw[bV];rfl
  refine(ck (v:=vW x fun U=>.none) hw (ε:=jM ε0.P [] r []) rfl (bM _ _ _) (DK best c) (nJ (by decide) hr (by decide)) ⟨rfl,(by decide:1≤12),rfl⟩ hj).cast ?_ (ka (b20 _ _)) rfl ?_ (ka (b20 _ _))
  ·show (⟨eO (.k ([c]++(r++[]))) (.k []),fg⟩ : ac)=_;rw[af];rfl
  ·show (⟨eO (.k ([c]++(r++[]))) (.k (SS.val _ (.k (dI best c)))),fg⟩ : ac)=_;rw[af,db];rfl
 apply dD (Ox hv ha);intro tx e A hj hA etx ee;have lA:=xB best c;have lE:=x6 (c::r);have DB:aQ (ab w mg mb ε0) 150 (bk 1 lH.2.1) ⟨eO (.k (c::r)) (.k (dI best c)),fg⟩ (aS z x) .next ⟨eO (.k (c::r)) (.k (cI best (c::r))),fg⟩ (aS z x):=by
  refine(ck (v:=vW x fun U=>.none) hw (ε:=jM ε0.P A [] (dI best c)) rfl (bM _ _ _) (sw tx e) (nJ (by lia) (by decide) (by lia)) ⟨rfl,(by decide:1≤12),rfl⟩ hj).cast ?_ (ka (x20 _ _)) rfl ?_ (ka (x20 _ _))
  ·show (⟨eO (.k (tx.val _)) (.k (dI best c++[])),fg⟩ : ac)=_;rw[af,show tx.val (jM ε0.P A [] (dI best c))=_ from etx _ _ _ rfl]
  ·show (⟨eO (.k (tx.val _)) (.k (dI best c++e.val _)),fg⟩ : ac)=_;rw[ee,show tx.val (jM ε0.P A [] (dI best c))=_ from etx _ _ _ rfl];rfl
 have DZ:aQ (ab w mg mb ε0) 150 (bk 2 kx) ⟨eO (.k (c::r)) (.k (cI best (c::r))),fg⟩ (aS z x) (.ret (.str (.k (cI best (c::r))))) ⟨[],fg⟩ (aS z x):=by
  refine(ck (v:=vW x fun U=>.none) hw (ε:=jM ε0.P (c::r) [] (cI best (c::r))) rfl (bM _ _ _) DT (nJ hl (by decide) (by show (dI best c++fm (c::r)).length≤3;rw[ax];lia)) ⟨rfl,(by decide:1≤12),rfl⟩ ok.2.2.2).cast ?_ (ka (x20 _ _)) ?_ rfl (ka (x20 _ _))
  ·show (⟨eO (.k ((c::r)++[])) (.k (cI best (c::r)++[])),fg⟩ : ac)=_;rw[af,af]
  ·show Fl.ret (.str (.k (cI best (c::r)++[])))=_;rw[af]
 have B:aQ (ab w mg mb ε0) 150 kx ⟨[(aJ,.cell 5),(dg,.str (.k (c::r)))],fg⟩ (aS z x) (.ret (.str (.k (cI best (c::r))))) ⟨[],fg⟩ (aS z x):=by
  rw[J6];exact D0.append ((Dz.if_ T0 (DA.append DB)).cons DZ)
 exact pU hw he Su (by kernel_rfl) B rfl
end
end
end
section
def yS:List Str:=[wu,qV,BH,zW,xd,iO,yz,sC,yH,zT,AZ,BB,y8,yK,Bn,v0,vf,yC,ve,w2,zb,yq,An,A4,yy,A3,BG,pG]
noncomputable def za:List Str→List (Str×AV)→Option (List AV)
 |[],[]=>some []
 |n::ns,p::r=>gd (seq p.1 n) (ob (za ns r) fun t=>some (p.2::t))
 |_,_=>none
def pj{α:Type}(d:α)(l:List α)(i:Nat):α:=Option.rec d id (ak l i)
def Al(l:List AV)(i:Nat):AV:=pj .none l i
def iU(σ:St)(i:Nat):aw:=pj (.list []) σ i
def H8(σ:St):Option ((Nat→aw)×(Nat→AV)):=gd (Nat.beq (aA σ) 10) (obp (mL σ 5) fun C fs=>gd (Nat.beq C 736) (ob (za yS fs) fun l=>some (iU σ,Al l)))
theorem E8:∀ {ns:List Str} {fs:List (Str×AV)} {l:List AV},za ns fs=some l→fs=ns.zip l∧l.length=ns.length
 |[],[],l,h=>by (apply j1 h;clear h;rintro rfl);exact⟨rfl,rfl⟩
 |[],_::_,_,h=>by injection h
 |_::_,[],_,h=>by injection h
 |n::ns,p::r,l,h=>by
  apply bJ h;clear h;intro h1 h;apply aI h;clear h;intro t h2 h;(apply j1 h;clear h;rintro rfl);apply aN (E8 h2);intro e1 e2;exact⟨by rw[List.zip_cons_cons,←e1,←hU.mp h1],congrArg (·+1) e2⟩
theorem C5{α:Type}(d:α){l:List α}(h:l.length=n):l=(List.range n).map (pj d l):=by
 apply List.ext_getElem?;intro i;rw[List.getElem?_map]
 by_cases hi:i<n
 ·rw[List.getElem?_range hi]
  show l[i]?=some (pj d l i);unfold pj;rw[dH,List.getElem?_eq_getElem (h▸hi)];rfl
 ·rw[List.getElem?_eq_none (h▸Nat.le_of_not_lt hi),List.getElem?_eq_none (by rw[List.length_range];exact Nat.le_of_not_lt hi)];rfl
theorem Sc{σ:St}{c:Nat→aw}{x:Nat→AV}(h:H8 σ=some (c,x)):σ=aS c x:=by
 apply bJ h;clear h;intro h0 h;apply b5 h;clear h;intro C fs h1 h;apply bJ h;clear h;intro h2 h;apply aI h;clear h;intro l h3 h;(apply j2 h;clear h;rintro rfl rfl);apply aN (E8 h3);intro e1 e2;obtain rfl:=bX h2;replace h0:=bX h0;rw[b7] at h0;have e3:fs=yS.zip ((List.range 28).map (Al l)):=by rw[e1];exact congrArg yS.zip (C5 (n:=28) AV.none e2)
 have e5:iU σ 5=eF (Al l):=by
  unfold iU pj;rw[qM h1,e3];rfl
 have e:σ=[iU σ 0,iU σ 1,iU σ 2,iU σ 3,iU σ 4,iU σ 5,iU σ 6,iU σ 7,iU σ 8,iU σ 9]:=(C5 (aw.list []) h0).trans (by kernel_rfl);rw[e5] at e;exact e
noncomputable abbrev rW:=(Nat→aw)→(Nat→AV)→List AV→Option (AV×(Nat→aw)×(Nat→AV))
def GR{α:Type}(l:List α):Option (α×List α):=List.rec none (fun a r U=>some (a,r)) l
theorem Ov{α:Type}{l r:List α}{a:α}(h:GR l=some (a,r)):l=a::r:=by
 cases l with
 |nil=>injection h
 |cons b t=>(apply j2 h;clear h;rintro rfl rfl);rfl
def kG(β:Bd)(g:rW)(σ:St)(vs:List AV):Option (AV×St):=obp (GR vs) fun v as=>gd (cZ v (.cell 5)) (obp (H8 σ) fun c x=>mR (g c x as) fun r c' x'=>gd (m7 β (lv r++fX (aS c' x'))) (some (r,aS c' x')))
theorem NH{α β γ δ:Type}{m:Option (α×β×γ)}{f:α→β→γ→Option δ}{d:δ}(h:mR m f=some d):∃ a b c,m=some (a,b,c)∧f a b c=some d:=by
 induction m using oO with
 |none=>injection h
 |some p=>exact⟨p.1,p.2.1,p.2.2,rfl,h⟩
theorem w9{Γ:ar}{β:Bd}(he:Γ.ε.Ok)(hb:aM β Γ.ε){g:rW}{f:Addr}{n:Nat} (H:∀ c x as r c' x',g c x as=some (r,c',x')→fnIn Γ.K f=true∧∃ r',(∀ imm ρ val,VR Γ imm ρ val r'→VR Γ imm ρ val (flA (aW Γ.ε) r)) ∧
   Rz Γ n (aS (fun i=>fC (aW Γ.ε) (c i)) (fun i=>flA (aW Γ.ε) (x i))) f (.cell 5::aO (aW Γ.ε) as) r' (aS (fun i=>fC (aW Γ.ε) (c' i)) (fun i=>flA (aW Γ.ε) (x' i))))
  {σ:St} {vs:List AV} {p:AV×St} (h:kG β g σ vs=some p):fnIn Γ.K f=true∧Rz Γ n σ f vs p.1 p.2:=by
 apply b5 h;intro v as h0 k0;clear h;apply bJ k0;intro hv k1;clear k0;obtain rfl:=Ov h0;obtain rfl:=fD _ _ hv;apply b5 k1;intro c x h1 k2;apply mC (NH k2);intro r c' x' h2 k3;apply bJ k3;intro h3 k4;(apply j1 k4;clear k4;rintro rfl);replace h1:=Sc h1;subst h1;obtain⟨h4,r',h5,h6⟩:=H c x as r c' x' h2;refine⟨h4,?_⟩;have R:Rz Γ n (bC (aW Γ.ε) (aS c x)) f (aO (aW Γ.ε) (.cell 5::as)) (flA (aW Γ.ε) r) (bC (aW Γ.ε) (aS c' x')):=⟨by
  intro c0 A s m ls imm cs vals kwv Rq C R hv hk hk2 k;exact h6.h C R hv hk hk2 fun h' tk imm' cs' val R' x' hx=>k h' tk imm' cs' val R' x' (h5 _ _ _ hx)⟩
 exact⟨cF.unz he hb h3 R⟩
noncomputable def s8(o:Option Bool):Bool:=match o with|some b=>b|none=>false
def gN(β:Bd)(v:AV)(lo hi:Int):Bool:=match v with|.int l=>s8 (jY β (.k lo) l)&&s8 (jY β l (.k hi))|_=>false
theorem Cy(h:s8 o=true):o=some true:=by
 cases o with
 |none=>injection h
 |some b=>exact congrArg some h
theorem FK{β:Bd}{ε:Ev}(hb:aM β ε){v:AV}{lo hi:Int}(h:gN β v lo hi=true):∃ l,v=.int l∧lo≤l.val ε∧l.val ε≤hi:=by
 induction v using AV.casesOn with
 |int l=>
  replace h:=aB (show (s8 (jY β (.k lo) l)&&s8 (jY β l (.k hi)))=true from h);have h1:=uQ hb (Cy h.1);have h2:=uQ hb (Cy h.2);rw[bV] at h1 h2;exact⟨l,rfl,of_decide_eq_true h1.symm,of_decide_eq_true h2.symm⟩
 |_=>injection h
end
section
section
noncomputable def tM:List (List Nat):=[[],[50],[51],[52],[57]].flatMap fun a=>[[],[45],[43]].map fun b=>a++b
noncomputable def nv(h:List Nat):Bool:=match h.reverse with|c::_=>Nat.beq c 43|[]=>false
def xA(h:List Nat):rW:=fun c x as=>gd (fU cZ as [.str [.var 2]]) (gd (cZ (x 20) (lI 8)) (some (.str (.k h),c,x)))
def M6(β:Bd)(h:List Nat):pr:=fun σ f vs=>Bool.rec none (kG β (xA h) σ vs) (Nat.beq f 711)
def vr(β:Bd)(h:List Nat):Sp:=M6 β h
noncomputable def βF:Bd:=[(0,100000),(0,100000),(0,100000),(0,0),(0,100000),(0,400),(2,40),(0,0),(2,9),(0,0),(0,0),(1,2)]
noncomputable def zm:Nat→AV:=xS [(7,lI 6),(20,lI 8),(22,.str [.var 5])]
def CB(h:List Nat)(ind:Bool):bO where
 β:=βF
 sp:=vr βF h
 d:=3
 fr:=[]
 ls:=⟨[(aJ,.cell 5),(dg,.str [.var 2])],bg⟩
 P:=jc zm [.var 0] (V 0) (lI 2) (lI 4) ff (.bool ind) (.any 24)
 ss:=aP 6 rT
 f:=.next
 k:=6
 out:=[(aJ,.cell 5),(dg,.str [.var 2]),(jG,.str (.k h)),(vu,tr),(nU,I 0),(o5,I 0)]
 Q:=jc zm [.var 0,.lit (32::124::h),.var 5] ⟨2,[(0,1)]⟩ (.int ⟨1,[(2,1)]⟩) (I 0) tr tr (.bool (nv h))
theorem J9:(tM.all fun h=>tf.all fun i=>(CB h i).chk)=true:=by kernel_rfl
theorem Rt:rT=aP 6 rT++[.While dZ.t dZ.b [] dZ.p]:=by kernel_rfl
theorem Nc:eD 725 gL=some (cM 725):=by kernel_rfl
theorem DX(b:Nat)(v:List Nat):(cI b v).length≤2:=by
 cases v with
 |nil=>exact Nat.zero_le _
 |cons a r=>
  show (dI b a++fm (a::r)).length≤2;rw[ax];exact Nat.add_le_add (xB b a) (x6 (a::r))
set_option tactic.hygienic true in
theorem CG(hb:best∈fN)(v:List Nat):cI best v∈tM:=by
 have hE:fm v=[]∨fm v=[45]∨fm v=[43]:=by
  unfold fm
  split
  ·exact .inl rfl
  ·rename_i e r _
   cases aC e with
   |false=>exact .inr (.inl rfl)
   |true=>
    split
    ·exact .inr (.inr rfl)
    ·rename_i d _ _;cases aC d
     ·exact .inl rfl
     ·exact .inr (.inr rfl)
 cases v with
 |nil=>exact(by decide:([]:List Nat)∈tM)
 |cons c r=>
  show dI best c++fm (c::r)∈tM;have hA:dI best c=[]∨dI best c=[best+48]:=by unfold dI;cases aK c [32,10,133,8232,8233]<;>simp
  unfold fN at hb;simp only [List.mem_cons,List.not_mem_nil,or_false] at hb;rcases hA with q|q<;>rw[q]<;>rcases hE with p|p|p<;>rw[p]<;>rcases hb with rfl|rfl|rfl|rfl<;>decide
section
variable {w:World}{mg mb:Str→Option Value}{ε:Ev}{β:Bd}
theorem SE(hw:ε.P=w.params)(he:ε.Ok)(hb:aM β ε){best:Nat}{v:List Nat}(h8:ε.iv 8=best)(hbe:best∈fN)(h2:ε.sv 2=v)(hv:v≠[])(ha:∀ c∈v,c∈aZ)(hl:v.length≤400):ja (ab w mg mb ε) 130 (vr β (cI best v)) :=
 fun σ f vs p h=>by
  cases q:Nat.beq f 711 with
  |false=>rw[show vr β (cI best v) σ f vs=Bool.rec (motive:=fun U=>Option (AV×St)) none (kG β (xA (cI best v)) σ vs) (Nat.beq f 711) from rfl,q] at h;injection h
  |true=>
   rw[show vr β (cI best v) σ f vs=Bool.rec (motive:=fun U=>Option (AV×St)) none (kG β (xA (cI best v)) σ vs) (Nat.beq f 711) from rfl,q] at h;replace q:=bX q;subst q;have R:=w9 (Γ:=ab w mg mb ε) (f:=711) (n:=155) he hb (g:=xA (cI best v)) (fun c x as r c' x' hg=>by
    apply bJ hg;clear hg;intro g0 hg;have ea:as=[.str [.var 2]]:=il (f:=cZ) (fun x U y e=>fD x y e) g0
    ·apply bJ hg;clear hg;intro g1 hg
     (apply j3 hg;rintro rfl rfl rfl);subst ea;have e20:flA (aW ε) (x' 20)=I best:=by rw[fD _ _ g1];show AV.int (.k ((V 8).val ε))=_;rw[bQ,h8];rfl
     have H:=JM (mg:=mg) (mb:=mb) (z:=fun i=>fC (aW ε) (c' i)) (x:=fun i=>flA (aW ε) (x' i)) hw he hbe e20 hv ha hl;refine⟨H.1,.str (.k (cI best v)),fun U U U h=>h.sames (by show _=SS.val ε (.k (SS.val ε (.k _)));rw[db,db,db]) (gG _),?_⟩;have e2:aO (aW ε) [.str [.var 2]]=[.str (.k v)]:=by show [AV.str (.k (ε.sv 2++[]))]=_;rw[af,h2]
     rw[show (ab w mg mb ε).ε=ε from rfl,e2];exact H.2) h
   exact⟨R.1,cF.le (by decide) R.2.h⟩
def εF(P:Params)(W:Wr)(ind best:Int)(nl v:List Nat):Ev:=dz P (tn 0 [W.n,W.line,W.col,ind,best]) (tn [] [W.T,[],v,[],[],nl])
theorem Nr{nl v:List Nat}(h:c9 W 0)(hi:2≤ind∧ind≤40)(hb:2≤best∧best≤9)(hn:1≤nl.length∧nl.length≤2)(hl:v.length≤400):aM βF (εF P W ind best nl v):=gx (by
 have e0:∀ a:Int,a≤a:=fun U=>bz _;have h1:=h.l1;have h2:=h.n1;have h3:=h.t1;have h5:=hn.1;have h6:=hn.2;exact⟨⟨h.n0,by show W.n≤100000;lia⟩,⟨bK _,by show (W.T.length:Int)≤100000;lia⟩,⟨h.l0,by show W.line≤100000;lia⟩,⟨e0 0,e0 0⟩,⟨h.c0,h.c1⟩,⟨bK _,by show (v.length:Int)≤400;lia⟩,hi,⟨e0 0,e0 0⟩,hb,⟨e0 0,e0 0⟩,⟨e0 0,e0 0⟩,⟨by show (1:Int)≤(nl.length:Int);lia,by show (nl.length:Int)≤2;lia⟩,trivial⟩)
def cR(best:Nat)(nl:List Nat)(ind:Int)(v:List Nat):List Nat×Int×Int:=(32::124::(cI best v++(nl++(cA nl ind v true []).1)),1+(cA nl ind v true []).2.1,2+(cA nl ind v true []).2.2)
def ez(best:Nat)(v:List Nat):Bool:=nv (cI best v)
set_option tactic.hygienic true in
theorem Kb{ε0:Ev}{W:Wr}(hw:ε0.P=w.params)(he:ε0.Ok)(hb:best∈fN)(h7:x 7=I ind)(h20:x 20=I best)(h22:x 22=.str (.k nl))(hn:1≤nl.length∧nl.length≤2)(hi2:2≤ind∧ind≤40)
  (hws:W.ws=false) (hv:v≠[]) (ha:∀ d∈v,d∈aZ) (hl:v.length≤400) (hB:c9 W 1000) :
  fnIn (cE w.params) 725=true∧Rz (ab w mg mb ε0) 205 (bc c x W) 725 [.cell 5,.str (.k v)] .none (bc c x {W.adv (cR best nl ind v) with ws:=true,ind:=true,oe:=ez best v}):=by
 have hb2:2≤(best:Int)∧(best:Int)≤9:=by
  unfold fN at hb;simp only [List.mem_cons,List.not_mem_nil,or_false] at hb;rcases hb with rfl|rfl|rfl|rfl<;>decide
 have hj:=aq (aq J9 (cI best v) (CG hb v)) W.ind (cU _);have lh:=DX best v;have st:∀ {T:SS} {d dl:Int} {col ws ind' oe:AV} {W':Wr},T.val (εF ε0.P W ind best nl v)=W'.T→W.n+d=W'.n→W.line+dl=W'.line→flA (ai (εF ε0.P W ind best nl v) (vW x (fun _=>.bool W.oe)) c) col=I W'.col→flA (ai (εF ε0.P W ind best nl v) (vW x (fun _=>.bool W.oe)) c) ws=.bool W'.ws→flA (ai (εF ε0.P W ind best nl v) (vW x (fun _=>.bool W.oe)) c) ind'=.bool W'.ind→flA (ai (εF ε0.P W ind best nl v) (vW x (fun _=>.bool W.oe)) c) oe=.bool W'.oe →
   bC (ai (εF ε0.P W ind best nl v) (vW x (fun _=>.bool W.oe)) c) (jc zm T ⟨d,[(0,1)]⟩ (.int ⟨dl,[(2,1)]⟩) col ws ind' oe)=bc c x W':=by
  intro T d dl col ws ind' oe W' a1 a2 a3 a4 a5 a6 a7;refine xg (tR fun p hp=>?_) a1 (by show d+(1*W.n+0)=W'.n;lia) (by show AV.int (.k (dl+(1*W.line+0)))=I W'.line;rw[←a3,show dl+(1*W.line+0)=W.line+dl by lia];rfl) a4 a5 a6 a7;rcases bU hp with rfl|hp
  ·show AV.int (.k ((V 6).val _))=_;rw[bQ,h7];rfl
  ·rcases bU hp with rfl|hp
   ·show AV.int (.k ((V 8).val _))=_;rw[bQ,h20];rfl
   ·rw[cH hp]
    show AV.str (.k (nl++[]))=x 22;rw[h22,af]
 have hok:(εF ε0.P W ind best nl v).Ok:=bM _ _ _;have hbd:aM βF (εF ε0.P W ind best nl v):=Nr (hB.mono (by decide)) hi2 hb2 hn hl;have D0:aQ (ab w mg mb ε0) 200 (aP 6 rT) ⟨[(aJ,.cell 5),(dg,.str (.k v))],bg⟩ (bc c x W) .next ⟨gV ([]++([]++v)) (.str (.k (cI best v))) tr 0 0,bg⟩ (bc c x {W with T:=W.T++(32::124::(cI best v++nl)),line:=W.line+1,n:=W.n+2,col:=0,ws:=true,ind:=true,oe:=ez best v}):=by
  refine((sM (mg:=mg) (mb:=mb) (b:=130) (v:=vW x (fun _=>.bool W.oe)) (z:=c) hw (ε:=εF ε0.P W ind best nl v) rfl (bM _ _ _) (CB (cI best v) W.ind) hbd (fun ov cv _=>SE (ε:=(εF ε0.P W ind best nl v).wO ov cv) hw (fun i=>hok i) (fun i p h=>hbd i p h) rfl hb rfl hv ha hl) rfl hj).le (by show 10*3+130+30≤200;decide)).cast ?_ ?_ rfl ?_ ?_
  ·show (⟨[(aJ,AV.cell 5),(dg,AV.str (.k (v++[])))],bg⟩ : ac)=_;rw[af]
  ·exact st (T:=[.var 0]) (d:=0) (dl:=0) (af _) (aY _) (aY _) (by show AV.int (.k ((V 4).val _))=_;rw[bQ];rfl) (by rw[hws];rfl) rfl rfl
  ·show (⟨[(aJ,AV.cell 5),(dg,AV.str (.k (v++[]))),(jG,AV.str (.k (SS.val _ (.k (cI best v))))),(vu,tr),(nU,AV.int (.k ((am.k 0).val _))),(o5,AV.int (.k ((am.k 0).val _)))],bg⟩ : ac)=_
   rw[af,db,bV];rfl
  ·refine st ?_ rfl rfl (by show AV.int (.k ((am.k 0).val _))=_;rw[bV];rfl) rfl rfl rfl
   show W.T++((32::124::cI best v)++(nl++[]))=W.T++(32::124::(cI best v++nl));rw[af];rfl
 have q1:=hB.l0;have q2:=hB.l1;have q3:=hB.n0;have q4:=hB.n1;have q5:=hB.t1;have hB1:c9 {W with T:=W.T++(32::124::(cI best v++nl)),line:=W.line+1,n:=W.n+2,col:=0,ws:=true,ind:=true,oe:=ez best v} 900 :=
  ⟨by show 0≤W.line+1;lia,by show W.line+1+900≤100000;lia,bz _,(by decide:(0:Int)≤100000),by show 0≤W.n+2;lia,by show W.n+2+900≤100000;lia,by show ((W.T++(32::124::(cI best v++nl))).length:Int)+50*900≤100000;rw[ax,bb,bb,ax];push_cast;lia⟩
 have L:=N8 (mg:=mg) (mb:=mb) (c:=c) (hi:=.str (.k (cI best v))) hw he h7 h22 hn hi2 v [] true [] {W with T:=W.T++(32::124::(cI best v++nl)),line:=W.line+1,n:=W.n+2,col:=0,ws:=true,ind:=true,oe:=ez best v} rfl rfl ha (by simpa using hl) (fun _=>⟨nofun,fun _=>rfl⟩) (hB1.mono (by show 2*(v.length:Int)+0+4≤900;lia));rw[t5 v true [] _ (fun _ _=>rfl)] at L;replace L:=(Dz.while_ (pos:=dZ.p) L).le (n:=200) (by decide);have B:aQ (ab w mg mb ε0) 200 rT ⟨[(aJ,.cell 5),(dg,.str (.k v))],bg⟩ (bc c x W) .next ⟨[],bg⟩ (bc c x {W.adv (cR best nl ind v) with ws:=true,ind:=true,oe:=ez best v}):=by
  have R:=D0.append L.one;rw[←Rt] at R;have e:({W with T:=W.T++(32::124::(cI best v++nl)),line:=W.line+1,n:=W.n+2,col:=0,ws:=true,ind:=true,oe:=ez best v}:Wr).adv (cA nl ind v true [])={W.adv (cR best nl ind v) with ws:=true,ind:=true,oe:=ez best v}:=by
   unfold Wr.adv cR;dsimp only;simp only [aX,List.cons_append,Int.add_assoc]
  rw[e] at R;exact R
 exact H9 hw he Nc (by kernel_rfl) B rfl
end
end
end
section
def kY:List Stmt:=(cM 704).body
def dP:List (Str×NameKind):=(cM 704).sc
def jt:wa:=xY kY 2
def spec(u:Bool)(c:Nat):Bool:=aK c [10,9,34,92,8232] ||(Nat.beq c 233&&!u)
noncomputable def Dp(u:Bool):List (Nat×List Nat):=[(10,[92,110]),(9,[92,116]),(34,[92,34]),(92,[92,92]),(8232,[92,76]),(233,Bool.rec [92,120,69,57] [233] u)]
def bL(u:Bool)(c:Nat):List Nat:=List.rec [c] (fun p U ih=>Bool.rec ih p.2 (Nat.beq c p.1)) (Dp u)
inductive Pl where
 |first|gap|run
inductive Wm where
 |no|wide|fit|over
noncomputable def Pl.pre(p:Pl):SS:=match p with|.first=>[]|.gap=>[.var 2]|.run=>[.var 2,.var 4]
def Pl.tx(p:Pl)(oc:Option Nat)(more:Bool):SS:=match oc with|some c=>p.pre++(.lit [c]::Bool.rec [] [.var 3] more)|none=>p.pre
noncomputable def Pl.st(p:Pl):am:=match p with|.first=>.k 0|_=>V 5
noncomputable def Pl.en(p:Pl)(d:Int):am:=match p with|.first=>.k d|.gap=>⟨d,[(5,1)]⟩|.run=>⟨d,[(5,1),(9,1)]⟩
noncomputable def Pl.col(p:Pl)(d:Int):am:=match p with|.run=>⟨d,[(4,1),(9,1)]⟩|_=>⟨d,[(4,1)]⟩
def eL(tx:SS)(sp st en:AV):List (Str×AV):=[(aJ,.cell 5),(dg,.str tx),(lC,sp),(nU,st),(o5,en)]
def Pl.β(p:Pl)(more:Bool)(m:Wm):Bd:=[(0,100000),(0,100000),(0,100000),(0,0),(0,600),(match p with|.first=>(0,0)|.gap=>(1,100)|.run=>(0,100)),(match m with|.fit=>(0,100000)|.over=>(-100000,-1)|_=>(0,0)),Bool.rec (0,0) (1,100) more,(0,0),(match p with|.run=>(1,100)|_=>(0,0))]
def Wm.wd(m:Wm)(l:am):AV:=match m with|.no=>.any 51|.wide=>I 1000|_=>.int (l.add (V 6))
noncomputable def Wm.sp(m:Wm):AV:=match m with|.no=>.any 21|.wide=>tr|_=>ff
noncomputable def MV(w u:AV):Nat→AV:=xS [(21,w),(19,u)]
def qv(w u:AV)(T:SS)(n:am)(col:am):St:=jc (MV w u) T n (.any 22) (.int col) (.any 23) (.any 24) (.any 25)
def zv(p:Pl)(more:Bool)(m:Wm)(ls:List (Str×AV))(w u:AV)(T':SS)(d:Int)(col':am)(out:List (Str×AV)):bO:=⟨p.β more m,bj,3,[],⟨ls,dP⟩,qv w u [.var 0] (V 0) (V 4),jt.b,.next,5,out,qv w u T' ⟨d,[(0,1)]⟩ col'⟩
def oz(c:Nat)(u:Bool):AV:=Bool.rec (.any 49) (.bool u) (aK c [9,10,233])
def w8(p:Pl)(m:Wm)(more u:Bool)(c:Nat):bO :=
 zv p more m (eL (p.tx (some c) more) m.sp (.int p.st) (.int (p.en 0))) (m.wd (p.col 0)) (oz c u) [.var 0] 0 (V 4) (eL (p.tx (some c) more) m.sp (.int p.st) (.int (p.en 1)))
noncomputable def Pl.put(p:Pl):SS:=match p with|.run=>[.var 0,.var 4]|_=>[.var 0]
noncomputable def Pl.nn(p:Pl):Int:=match p with|.run=>1|_=>0
def vY(p:Pl)(m:Wm)(more u:Bool)(c:Nat):bO :=
 zv p more m (eL (p.tx (some c) more) m.sp (.int p.st) (.int (p.en 0))) (m.wd (p.col ((aA (bL u c):Int)-1))) (oz c u) (p.put++[.lit (bL u c)]) (p.nn+1) (p.col (aA (bL u c))) (eL (p.tx (some c) more) m.sp (.int (p.en 1)) (.int (p.en 1)))
def GL(p:Pl):bO :=
 zv p false .no (eL (p.tx none false) (.any 21) (.int p.st) (.int (p.en 0))) (.any 51) (.any 49) p.put p.nn (p.col 0) (eL (p.tx none false) (.any 21) (.int (p.en 0)) (.int (p.en 1)))
noncomputable def vl(p:Pl)(more:Bool)(s:Bool)(c:Nat):Bool:=more&&(match p with|.first=>false|.gap=>true|.run=>s ||Nat.beq c 32)
def AY(b:Bool):List Wm:=Bool.rec [.no] [.wide,.fit,.over] b
noncomputable def rt:List Pl:=[.first,.gap,.run]
def TS(c:Nat):Bool:=rt.all fun p=>tf.all fun more=>(km (aK c [9,10,233])).all fun u=>(AY (vl p more (spec u c) c)).all fun m=>Bool.rec (w8 p m more u c).chk (vY p m more u c).chk (spec u c)
theorem Fx:(aZ.all TS&&rt.all fun p=>(GL p).chk)=true:=by kernel_rfl
def sU(p:Pl)(more:Bool)(oc:Option Nat)(d:Int)(b:Bool):nf:=⟨p.β more .no,⟨eL (p.tx oc more) (.any 21) (.any 20) (.int (p.en d)),dP⟩,qv (.any 51) (.any 49) [.var 0] (V 0) (V 4),jt.t,b⟩
theorem IA:(rt.all fun p=>(aZ.all fun c=>tf.all fun more=>(sU p more (some c) 0 true).chk)&&((sU p false none 0 true).chk&&(sU p false none 1 false).chk))=true:=by kernel_rfl
end
section
section
structure fj (W:Wr) (K:Int):Prop where
 c0:0≤W.col
 c1:W.col+5*K≤600
 n0:0≤W.n
 n1:W.n+2*K≤100000
 t1:(W.T.length:Int)+5*K≤100000
def εD(P:Params)(W:Wr)(g:Int)(A s post:List Nat):Ev:=dz P (tn 0 [W.n,0,W.col,g]) (tn [] [W.T,[],A,post,s])
noncomputable def cQ(A s:List Nat):Pl:=match s with|_::_=>.run|[]=>match A with|[]=>.first|_::_=>.gap
noncomputable def fZ(post:List Nat):Bool:=match post with|[]=>false|_::_=>true
noncomputable def FN(m:Wm)(g:Int):Prop:=match m with|.fit=>0≤g∧g≤100000|.over=>-100000≤g∧g≤-1|_=>g=0
noncomputable def dY(s:List Nat):Int:=match s with|[]=>0|_::_=>1
noncomputable def kh(A s:List Nat)(oc:Option Nat)(post:List Nat):List Nat:=match oc with|some c=>A++(s++c::post)|none=>A++s
section
variable {x:Nat→AV}{c:Nat→aw}{P:Params}{W:Wr}{g:Int}{A s post:List Nat}{h:Nat→AV}
theorem Jb(oc:Option Nat):((cQ A s).tx oc (fZ post)).val (εD P W g A s post)=kh A s oc post:=by
 unfold cQ fZ kh;cases s with
 |cons a r=>cases oc with
  |none=>show A++((a::r)++[])=A++a::r;rw[af]
  |some d=>cases post with
   |nil=>show A++((a::r)++([d]++[]))=_;rfl
   |cons e q=>show A++((a::r)++([d]++((e::q)++[])))=_;rw[af];rfl
 |nil=>cases A with
  |nil=>cases oc with
   |none=>rfl
   |some d=>cases post with
    |nil=>rfl
    |cons e q=>show [d]++((e::q)++[])=_;rw[af];rfl
  |cons b t=>cases oc with
   |none=>show (b::t)++[]=(b::t)++[];rfl
   |some d=>cases post with
    |nil=>show (b::t)++([d]++[])=_;rfl
    |cons e q=>show (b::t)++([d]++((e::q)++[]))=_;rw[af];rfl
theorem vg:((cQ A s).st).val (εD P W g A s post)=A.length:=by
 unfold cQ;cases s with
 |cons a r=>exact bQ _ 5
 |nil=>cases A with
  |nil=>exact bV 0
  |cons b t=>exact bQ _ 5
theorem lB(d:Int):((cQ A s).en d).val (εD P W g A s post)=A.length+s.length+d:=by
 unfold cQ;cases s with
 |cons a r=>show d+(1*(A.length:Int)+(1*((a::r).length:Int)+0))=_;lia
 |nil=>
  rw[show ((([]:List Nat).length:Nat):Int)=0 from rfl];cases A with
  |nil=>show d+0=0+0+d;lia
  |cons b t=>show d+(1*((b::t).length:Int)+0)=_;lia
theorem tG(d:Int):((cQ A s).col d).val (εD P W g A s post)=W.col+s.length+d:=by
 unfold cQ;cases s with
 |cons a r=>show d+(1*W.col+(1*((a::r).length:Int)+0))=_;lia
 |nil=>
  rw[show ((([]:List Nat).length:Nat):Int)=0 from rfl];cases A<;>(show d+(1*W.col+0)=_;lia)
theorem Ea(l:SS)(m:List Nat)(hl:l.val (εD P W g A s post)=m):SS.val (εD P W g A s post) ((cQ A s).put++l)=W.T++(s++m):=by
 unfold cQ;cases s with
 |cons a r=>show W.T++((a::r)++l.val _)=_;rw[hl]
 |nil=>cases A<;>(show W.T++l.val _=_;rw[hl];rfl)
theorem Hp:(cQ A s).nn=dY s:=by unfold cQ dY;cases s with|cons a r=>rfl|nil=>cases A<;>rfl
theorem pN{st en:am}(h1:flA (ai (εD P W g A s post) (vW x h) c) sp=sp')(h2:st.val (εD P W g A s post)=i)(h3:en.val (εD P W g A s post)=j) :
  cC (ai (εD P W g A s post) (vW x h) c) ⟨eL ((cQ A s).tx oc (fZ post)) sp (.int st) (.int en),dP⟩=⟨eL (.k (kh A s oc post)) sp' (I i) (I j),dP⟩:=by
 show (⟨eL (.k (((cQ A s).tx oc (fZ post)).val _)) (flA _ sp) (.int (.k (st.val _))) (.int (.k (en.val _))),dP⟩ : ac)=_;rw[Jb,h1,h2,h3];rfl
def hD(W:Wr)(a b:AV):Nat→AV:=(fun i=>tn (.bool W.oe) [b,a,I W.line,.bool W.ws,.bool W.ind] (i-20))
theorem qF{T:SS}{col:am}{W':Wr}(hw:flA (ai (εD P W g A s post) (vW x (hD W a b)) c) w=x 21)(hu:flA (ai (εD P W g A s post) (vW x (hD W a b)) c) u=x 19)(hT:T.val (εD P W g A s post)=W'.T)(hn:W.n+d=W'.n)(hc:col.val (εD P W g A s post)=W'.col)(e0:W'.line=W.line)(e1:W'.ws=W.ws)(e2:W'.ind=W.ind)(e3:W'.oe=W.oe) :
  bC (ai (εD P W g A s post) (vW x (hD W a b)) c) (qv w u T ⟨d,[(0,1)]⟩ col)=bc c x W':=by
 refine xg (tR fun p hp=>?_) hT ?_ ?_ ?_ ?_ ?_ ?_
 ·rcases bU hp with rfl|hp
  ·exact hw
  ·rw[cH hp];exact hu
 ·show d+(1*W.n+0)=W'.n;lia
 ·show I W.line=_;rw[e0]
 ·show AV.int (.k (col.val _))=_;rw[hc];rfl
 ·show AV.bool W.ws=_;rw[e1]
 ·show AV.bool W.ind=_;rw[e2]
 ·show AV.bool W.oe=_;rw[e3]
theorem ww{m:Wm}{K:Int}(hb:fj W K)(hk:0≤K)(hv:A.length+s.length+post.length≤100)(hg:FN m g):aM ((cQ A s).β (fZ post) m) (εD P W g A s post):=gx (by
 have e0:(0:Int)≤0∧(0:Int)≤0:=⟨bz _,bz _⟩;have h1:=hb.c1;have h2:=hb.n1;have h3:=hb.t1;refine⟨⟨hb.n0,by show W.n≤100000;lia⟩,⟨bK _,by show (W.T.length:Int)≤100000;lia⟩,⟨e0.1,(by decide:(0:Int)≤100000)⟩,e0,⟨hb.c0,by show W.col≤600;lia⟩,?_,?_,?_,e0,?_,trivial⟩
 ·show ((match cQ A s with|.first=>((0:Int),(0:Int))|.gap=>(1,100)|.run=>(0,100)).1≤(A.length:Int)∧(A.length:Int)≤(match cQ A s with|.first=>((0:Int),(0:Int))|.gap=>(1,100)|.run=>(0,100)).2)
  unfold cQ;cases s with
  |cons a r=>exact⟨bK _,by show (A.length:Int)≤100;lia⟩
  |nil=>cases A with
   |nil=>exact e0
   |cons b t=>exact⟨by show (1:Int)≤((b::t).length:Int);rw[bb];push_cast;lia,by show ((b::t).length:Int)≤100;lia⟩
 ·cases m with
  |no=>rw[show g=0 from hg];exact e0
  |wide=>rw[show g=0 from hg];exact e0
  |fit=>exact hg
  |over=>exact hg
 ·unfold fZ
  cases post with
  |nil=>exact e0
  |cons a r=>exact⟨by show (1:Int)≤((a::r).length:Int);rw[bb];push_cast;lia,by show ((a::r).length:Int)≤100;lia⟩
 ·show ((match cQ A s with|.run=>((1:Int),(100:Int))|_=>(0,0)).1≤(s.length:Int)∧(s.length:Int)≤(match cQ A s with|.run=>((1:Int),(100:Int))|_=>(0,0)).2)
  unfold cQ;cases s with
  |cons a r=>exact⟨by show (1:Int)≤((a::r).length:Int);rw[bb];push_cast;lia,by show ((a::r).length:Int)≤100;lia⟩
  |nil=>cases A<;>exact e0)
end
theorem J5:(aZ.all fun c=>tf.all fun u=>Bool.rec (pE (spec false c) (spec u c)&&co (bL false c) (bL u c)) true (aK c [9,10,233]))=true:=by kernel_rfl
theorem Hc(hd:d∈aZ)(u:Bool):∃ u',u'∈km (aK d [9,10,233])∧spec u' d=spec u d∧bL u' d=bL u d∧oz d u'=Bool.rec (.any 49) (.bool u) (aK d [9,10,233]):=by
 have h:=aq (aq J5 d hd) u (cU u);unfold oz;cases q:aK d [9,10,233] with
 |true=>exact⟨u,cU u,rfl,rfl,rfl⟩
 |false=>
  rw[q] at h;replace h:=aB h;exact⟨false,.head _,sF h.1,gJ.mp h.2,rfl⟩
noncomputable def xp(m:Wm)(g:Int)(sp:Bool)(bw base:Int):Prop:=match m with|.no=>g=0|.wide=>g=0∧sp=true∧bw=1000|.fit=>(0≤g∧g≤100000)∧sp=false∧base+g=bw|.over=>(-100000≤g∧g≤-1)∧sp=false∧base+g=bw
theorem Gu(asked:Bool)(hsp:sp=true→bw=1000)(hbw:0≤bw∧bw≤1000)(h0:0≤base∧base≤1000):∃ m g,m∈AY asked∧xp m g sp bw base:=by
 cases asked with
 |false=>exact⟨.no,0,.head _,rfl⟩
 |true=>cases sp with
  |true=>exact⟨.wide,0,.head _,rfl,rfl,hsp rfl⟩
  |false=>
   by_cases h:base≤bw
   ·exact⟨.fit,bw-base,.tail _ (.head _),⟨by lia,by lia⟩,rfl,by lia⟩
   ·exact⟨.over,bw-base,.tail _ (.tail _ (.head _)),⟨by lia,by lia⟩,rfl,by lia⟩
noncomputable def Wr.code(W:Wr)(s e:List Nat)(k:Int):Wr:={W with T:=W.T++(s++e),n:=W.n+(dY s+k),col:=W.col+(s.length+e.length)}
section
variable {x:Nat→AV}{c:Nat→aw}{w:World}{mg mb:Str→Option Value}{ε0:Ev}{P:Params}{W:Wr}{g bw base:Int}{A s post:List Nat}{h:Nat→AV}{u sp:Bool}{m:Wm}{b:AV}
theorem BX{l:am}(hM:xp m g sp bw base)(hl:l.val (εD P W g A s post)=base)(h21:x 21=I bw):flA (ai (εD P W g A s post) (vW x h) c) (m.wd l)=x 21:=by
 cases m with
 |no=>rfl
 |wide=>rw[h21,hM.2.2];show AV.int (.k ((am.k 1000).val _))=_;rw[bV];rfl
 |fit=>show AV.int (.k ((l.add (V 6)).val _))=_;rw[gQ,hl,bQ,h21,←hM.2.2];rfl
 |over=>show AV.int (.k ((l.add (V 6)).val _))=_;rw[gQ,hl,bQ,h21,←hM.2.2];rfl
theorem wr(hM:xp m g sp bw base):flA (ai (εD P W g A s post) (vW x (hD W (.bool sp) b)) c) m.sp=.bool sp:=by
 cases m with
 |no=>rfl
 |wide=>rw[hM.2.1];rfl
 |fit=>rw[hM.2.1];rfl
 |over=>rw[hM.2.1];rfl
theorem uD(h19:x 19=.bool u)(hu:oz d u'=Bool.rec (.any 49) (.bool u) (aK d [9,10,233])):flA (ai (εD P W g A s post) (vW x h) c) (oz d u')=x 19:=by
 rw[hu];cases aK d [9,10,233]
 ·rfl
 ·exact h19.symm
theorem gD(hM:xp m g sp bw base):FN m g:=by
 cases m with
 |no=>exact hM
 |wide=>exact hM.1
 |fit=>exact hM.1
 |over=>exact hM.1
theorem En(u:Bool)(d:Nat):1≤(bL u d).length∧(bL u d).length≤4:=by
 have r:∀ {l:List (Nat×List Nat)},(∀ p∈l,1≤p.2.length∧p.2.length≤4)→1≤(List.rec (motive:=fun U=>List Nat) [d] (fun p U ih=>Bool.rec ih p.2 (Nat.beq d p.1)) l).length∧(List.rec (motive:=fun U=>List Nat) [d] (fun p U ih=>Bool.rec ih p.2 (Nat.beq d p.1)) l).length≤4:=by
  intro l;induction l with
  |nil=>exact fun U=>⟨Nat.le_refl _,(by decide:1≤4)⟩
  |cons p l ih=>
   intro h;show 1≤(Bool.rec (motive:=fun U=>List Nat) _ p.2 (Nat.beq d p.1)).length∧(Bool.rec (motive:=fun U=>List Nat) _ p.2 (Nat.beq d p.1)).length≤4;cases Nat.beq d p.1 with
   |true=>exact h p (.head _)
   |false=>exact ih fun q hq=>h q (.tail _ hq)
 exact @r (Dp u) (by cases u<;>decide)
theorem sq(u:Bool)(d:Nat):(bL u d).length≤4:=by
 exact(En u d).2
theorem OO(u:Bool)(d:Nat):1≤(bL u d).length:=by
 exact(En u d).1
theorem qh:cQ A s∈rt:=by unfold cQ rt;cases s with|cons a r=>simp|nil=>cases A<;>simp
theorem Ij(hd:d∈aZ)(hu:u'∈km (aK d [9,10,233]))(p:Pl)(hp:p∈rt)(more:Bool)(hm:m∈AY (vl p more (spec u' d) d)):Bool.rec (motive:=fun U=>Bool) (w8 p m more u' d).chk (vY p m more u' d).chk (spec u' d)=true:=by
 have k:=aq (aB Fx).1 d hd;exact aq (aq (aq (aq k p hp) more (cU more)) u' hu) m hm
variable (hw:ε0.P=w.params)(h21:x 21=I bw)(h19:x 19=.bool u)(hsp:sp=true→bw=1000)(hbw:0≤bw∧bw≤1000)(hb:fj W (s.length+post.length+1))(hv:A.length+s.length+post.length≤99)
include hw h21 h19 hsp hbw hb hv
theorem UE{d:Nat}(hd:d∈aZ)(hs:spec u d=false) :
  aQ (ab w mg mb ε0) 150 jt.b ⟨eL (.k (kh A s (some d) post)) (.bool sp) (I A.length) (I (A.length+s.length)),dP⟩ (bc c x W) .next ⟨eL (.k (kh A s (some d) post)) (.bool sp) (I A.length) (I (A.length+s.length+1)),dP⟩ (bc c x W):=by
 apply sg (Hc hd u);intro u' hu1 hu2 hu3 hu4;have c0:=hb.c0;have c1:=hb.c1;apply tT (Gu (vl (cQ A s) (fZ post) (spec u' d) d) (base:=W.col+s.length+0) hsp hbw ⟨by lia,by lia⟩);intro m g hm hM;have hj:=Ij hd hu1 _ (qh) (fZ post) hm;rw[hu2,hs] at hj;replace hj:(w8 (cQ A s) m (fZ post) u' d).chk=true:=hj;have st:bC (ai (εD ε0.P W g A s post) (vW x (hD W (.bool sp) .none)) c) (qv (m.wd ((cQ A s).col 0)) (oz d u') [.var 0] ⟨0,[(0,1)]⟩ (V 4))=bc c x W:=qF (BX hM (tG 0) h21) (uD h19 hu4) (af _) (aY _) (bQ _ 4) rfl rfl rfl rfl;refine(ck (v:=vW x (hD W (.bool sp) .none)) (z:=c) hw (ε:=εD ε0.P W g A s post) rfl (bM _ _ _) (w8 (cQ A s) m (fZ post) u' d) (ww hb (by lia) (by lia) (gD hM)) ⟨rfl,(by decide:3≤12),rfl⟩ hj).cast ?_ st rfl ?_ st
 ·exact pN (wr hM) vg ((lB 0).trans (aY _))
 ·exact pN (wr hM) vg (lB 1)
theorem TU{d:Nat}(hd:d∈aZ)(hs:spec u d=true) :
  aQ (ab w mg mb ε0) 150 jt.b ⟨eL (.k (kh A s (some d) post)) (.bool sp) (I A.length) (I (A.length+s.length)),dP⟩ (bc c x W) .next ⟨eL (.k (kh A s (some d) post)) (.bool sp) (I (A.length+s.length+1)) (I (A.length+s.length+1)),dP⟩ (bc c x (W.code s (bL u d) 1)):=by
 apply sg (Hc hd u);intro u' hu1 hu2 hu3 hu4;have c0:=hb.c0;have c1:=hb.c1;have p1:=sq u' d;have p2:=OO u' d;obtain⟨m,g,hm,hM⟩:=Gu (vl (cQ A s) (fZ post) (spec u' d) d) (base:=W.col+s.length+((aA (bL u' d):Int)-1)) hsp hbw (by rw[b7];exact⟨by lia,by lia⟩);have hj:=Ij hd hu1 _ (qh) (fZ post) hm;rw[hu2,hs] at hj;replace hj:(vY (cQ A s) m (fZ post) u' d).chk=true:=hj;refine(ck (v:=vW x (hD W (.bool sp) .none)) (z:=c) hw (ε:=εD ε0.P W g A s post) rfl (bM _ _ _) (vY (cQ A s) m (fZ post) u' d) (ww hb (by lia) (by lia) (gD hM)) ⟨rfl,(by decide:3≤12),rfl⟩ hj).cast ?_ ?_ rfl ?_ ?_
 ·exact pN (wr hM) vg ((lB 0).trans (aY _))
 ·exact qF (BX hM (tG _) h21) (uD h19 hu4) (af _) (aY _) (bQ _ 4) rfl rfl rfl rfl
 ·exact pN (wr hM) (lB 1) (lB 1)
 ·refine qF (W':=W.code s (bL u d) 1) (BX hM (tG _) h21) (uD h19 hu4) ?_ ?_ ?_ rfl rfl rfl rfl
  ·rw[Ea [.lit (bL u' d)] (bL u' d) (af _),hu3];rfl
  ·rw[Hp];rfl
  ·rw[tG,b7,hu3];exact Int.add_assoc _ _ _
end
end
end
section
section
noncomputable def bB(u:Bool):List Nat→List Nat→List Nat×Int
 |[],s=>(s,dY s)
 |c::r,s=>Bool.rec (bB u r (s++[c])) (s++(bL u c++(bB u r []).1),dY s+1+(bB u r []).2) (spec u c)
noncomputable def Wr.adq(W:Wr)(p:List Nat×Int):Wr:={W with T:=W.T++p.1,n:=W.n+p.2,col:=W.col+p.1.length}
section
variable {x:Nat→AV}{c:Nat→aw}{w:World}{mg mb:Str→Option Value}{ε0:Ev}{u sp:Bool}{bw:Int}
theorem Ly{W:Wr}{s e:List Nat}{p:List Nat×Int}:(W.code s e 1).adq p=W.adq (s++(e++p.1),dY s+1+p.2):=by
 unfold Wr.code Wr.adq;dsimp only;have e1:W.col+((s.length:Int)+e.length)+p.1.length=W.col+((s++(e++p.1)).length:Int):=by rw[ax,ax];push_cast;lia
 rw[e1];simp only [aX,Int.add_assoc]
theorem u2(s:List Nat):0≤dY s∧dY s≤1:=by unfold dY;cases s<;>(dsimp only;decide)
theorem Qa{W:Wr}{s:List Nat}{d:Nat}{K:Int}(h:fj W (s.length+1+K))(hk:0≤K):fj (W.code s (bL u d) 1) K:=by
 have p1:=sq u d;have p2:=u2 s;have h1:=h.c0;have h2:=h.c1;have h3:=h.n0;have h4:=h.n1;have h5:=h.t1;refine⟨?_,?_,?_,?_,?_⟩
 ·show 0≤W.col+((s.length:Int)+(bL u d).length);lia
 ·show W.col+((s.length:Int)+(bL u d).length)+5*K≤600;lia
 ·show 0≤W.n+(dY s+1);lia
 ·show W.n+(dY s+1)+2*K≤100000;lia
 ·show ((W.T++(s++bL u d)).length:Int)+5*K≤100000;rw[ax,ax];push_cast;lia
theorem fj.mono{W:Wr}{K K':Int}(h:fj W K)(hk:K'≤K):fj W K':=⟨h.c0,by have:=h.c1;lia,h.n0,by have:=h.n1;lia,by have:=h.t1;lia⟩
section
variable {W:Wr}{A s post:List Nat}(hw:ε0.P=w.params)(hb:fj W 0)(hv:A.length+s.length+post.length≤99)
include hw hb hv
theorem AS{oc:Option Nat}{d i:Int}{b:Bool}{sp':AV}(hj:(sU (cQ A s) (fZ post) oc d b).chk=true):Tz (ab w mg mb ε0) 150 jt.t ⟨eL (.k (kh A s oc post)) sp' (I i) (I (A.length+s.length+d)),dP⟩ (bc c x W) b (bc c x W):=by
 have e2:bC (ai (εD ε0.P W 0 A s post) (vW x (hD W sp' (I i))) c) (qv (.any 51) (.any 49) [.var 0] ⟨0,[(0,1)]⟩ (V 4))=bc c x W:=qF rfl rfl (af _) (aY _) (bQ _ 4) rfl rfl rfl rfl;refine(t7 (v:=vW x (hD W sp' (I i))) (z:=c) hw (ε:=εD ε0.P W 0 A s post) rfl (bM _ _ _) (sU (cQ A s) (fZ post) oc d b) (ww (m:=.no) hb (bz _) (by lia) rfl) hj).cast ?_ e2 e2;show (⟨eL (.k (((cQ A s).tx oc (fZ post)).val _)) sp' (I i) (.int (.k (((cQ A s).en d).val _))),dP⟩ : ac)=_;rw[Jb,lB];rfl
end
theorem SQ{W:Wr}{A s:List Nat}(hw:ε0.P=w.params)(hb:fj W 0)(hv:A.length+s.length≤99) :
  aQ (ab w mg mb ε0) 150 jt.b ⟨eL (.k (A++s)) sp' (I A.length) (I (A.length+s.length)),dP⟩ (bc c x W) .next ⟨eL (.k (A++s)) sp' (I (A.length+s.length)) (I (A.length+s.length+1)),dP⟩ (bc c x (W.adq (s,dY s))):=by
 have hj:=aq (aB Fx).2 (cQ A s) qh;refine(ck (v:=vW x (hD W sp' .none)) (z:=c) hw (ε:=εD ε0.P W 0 A s []) rfl (bM _ _ _) (GL (cQ A s)) (ww (post:=[]) (m:=.no) hb (bz _) (by show A.length+s.length+0≤100;lia) rfl) ⟨rfl,(by decide:3≤12),rfl⟩ hj).cast ?_ ?_ rfl ?_ ?_
 ·exact pN (post:=[]) (oc:=none) rfl vg ((lB 0).trans (aY _))
 ·exact qF rfl rfl (af _) (aY _) (bQ _ 4) rfl rfl rfl rfl
 ·exact pN (post:=[]) (oc:=none) rfl ((lB 0).trans (aY _)) (lB 1)
 ·refine qF (W':=W.adq (s,dY s)) rfl rfl ?_ ?_ ?_ rfl rfl rfl rfl
  ·have:=Ea (P:=ε0.P) (W:=W) (g:=0) (A:=A) (s:=s) (post:=[]) [] [] rfl
   rw[af,af] at this;exact this
  ·rw[Hp];rfl
  ·rw[tG];exact aY _
variable (hw:ε0.P=w.params)(h21:x 21=I bw)(h19:x 19=.bool u)(hsp:sp=true→bw=1000)(hbw:0≤bw∧bw≤1000)
include hw h21 h19 hsp hbw
theorem LD:∀ (post A s:List Nat) (W:Wr),(∀ d∈post,d∈aZ)→A.length+s.length+post.length≤99→fj W (s.length+post.length+1) →
  Wz (ab w mg mb ε0) 150 jt.t jt.b ⟨eL (.k (A++(s++post))) (.bool sp) (I A.length) (I (A.length+s.length)),dP⟩ (bc c x W) ⟨[(aJ,.cell 5)],dP⟩ (bc c x (W.adq (bB u post s))):=by
 intro L0;induction L0 with
 |nil=>
  intro A s W _ hl hb;replace hl:A.length+s.length≤99:=hl;have b0:fj W 0:=hb.mono (by lia);have tt:=aq IA;have t1:=(aB (aB (tt (cQ A s) qh)).2).1;have t2:=(aB (aB (tt (cQ A s) qh)).2).2;have T1:=AS (mg:=mg) (mb:=mb) (c:=c) (x:=x) (post:=[]) (i:=A.length) (sp':=.bool sp) (oc:=none) hw b0 hl t1;rw[aY] at T1;have D:=SQ (mg:=mg) (mb:=mb) (c:=c) (x:=x) (sp':=.bool sp) hw b0 hl;rw[af];have b1:fj (W.adq (s,dY s)) 0:=by
   have p2:=u2 s;have h1:=hb.c0;have h2:=hb.c1;have h3:=hb.n0;have h4:=hb.n1;have h5:=hb.t1;exact⟨by show 0≤W.col+(s.length:Int);lia,by show W.col+(s.length:Int)+5*0≤600;lia,by show 0≤W.n+dY s;lia,by show W.n+dY s+2*0≤100000;lia,by show ((W.T++s).length:Int)+5*0≤100000;rw[ax];push_cast;lia⟩
  refine Wz.post (ls1:=⟨eL (.k (A++s)) (.bool sp) (I (A.length+s.length)) (I (A.length+s.length+1)),dP⟩) rfl (fun U U h=>rD (a:=[(aJ,.cell 5)]) h) ?_;exact Wz.go T1 D (Wz.stop (AS (post:=[]) (i:=A.length+s.length) (sp':=.bool sp) (oc:=none) hw b1 hl t2))
 |cons d r ih=>
  intro A s W ha hl hb;rw[bb] at hl hb;push_cast at hb;have b0:fj W 0:=hb.mono (by lia);have tt:=aq IA;have hd:=ha d (.head _);have t1:=aq (aq (aB (tt (cQ A s) qh)).1 d hd) (fZ r) (cU _);have hl1:A.length+s.length+r.length≤99:=by lia
  have hb1:fj W (s.length+r.length+1):=hb.mono (by lia);have T1:=AS (mg:=mg) (mb:=mb) (c:=c) (x:=x) (post:=r) (i:=A.length) (sp':=.bool sp) (oc:=some d) hw b0 hl1 t1;rw[aY] at T1;show Wz _ _ _ _ _ _ _ (bc c x (W.adq (Bool.rec (motive:=fun U=>List Nat×Int) (bB u r (s++[d])) (s++(bL u d++(bB u r []).1),dY s+1+(bB u r []).2) (spec u d))));cases hs:spec u d with
  |false=>
   have D:=UE (mg:=mg) (mb:=mb) (c:=c) hw h21 h19 hsp hbw hb1 hl1 hd hs;have R:=ih A (s++[d]) W (fun e he=>ha e (.tail _ he)) (by rw[ax];show A.length+(s.length+1)+r.length≤99;lia) (hb.mono (by rw[ax];push_cast;show (s.length:Int)+1+_+1≤_;lia));have ev1:A++((s++[d])++r)=kh A s (some d) r:=by show A++((s++[d])++r)=A++(s++d::r);rw[aX];rfl
   have el1:(A.length:Int)+((s++[d]).length:Int)=A.length+s.length+1:=by rw[ax];push_cast;show _+(_+(1:Int))=_;lia
   rw[ev1,el1] at R;exact Wz.go T1 D R
  |true=>
   have D:=TU (mg:=mg) (mb:=mb) (c:=c) hw h21 h19 hsp hbw hb1 hl1 hd hs;have R:=ih (A++(s++[d])) [] (W.code s (bL u d) 1) (fun e he=>ha e (.tail _ he)) (by rw[ax,ax];show A.length+(s.length+1)+0+r.length≤99;lia) (Qa (hb.mono (by show (s.length:Int)+1+(0+r.length+1)≤_;lia)) (by lia));have ev1:(A++(s++[d]))++([]++r)=kh A s (some d) r:=by show (A++(s++[d]))++r=A++(s++d::r);rw[aX,aX];rfl
   have el1:((A++(s++[d])).length:Int)=A.length+s.length+1:=by rw[ax,ax];push_cast;show _+(_+(1:Int))=_;lia
   rw[ev1,el1,show ((([]:List Nat).length:Nat):Int)=0 from rfl,aY,Ly] at R;exact Wz.go T1 D R
end
end
end
section
section
noncomputable def βQ:Bd:=[(0,100000),(0,100000),(0,100000),(0,0),(0,600),(0,100)]
def Fv(sp:AV):List (Str×AV):=[(aJ,.cell 5),(dg,.str [.var 2]),(lC,sp)]
def eo(ws:Bool):List Nat:=Bool.rec [32,34] [34] ws
def IF(ws ind:Bool):bO:=⟨βQ,bj,3,[],⟨Fv (.any 21),dP⟩,jc (xS []) [.var 0] (V 0) (.any 22) (lI 4) (.bool ws) (.bool ind) (.any 25),aP 2 kY,.next,5,Fv (.any 21)++[(nU,I 0),(o5,I 0)],jc (xS []) [.var 0,.lit (eo ws)] ⟨1,[(0,1)]⟩ (.any 22) (.int ⟨aA (eo ws),[(4,1)]⟩) ff ff ff⟩
def IS:bO:=⟨βQ,bj,3,[],⟨[(aJ,.cell 5)],dP⟩,jc (xS []) [.var 0] (V 0) (.any 22) (lI 4) ff ff ff,bk 3 kY,.next,0,[],jc (xS []) [.var 0,.lit [34]] ⟨1,[(0,1)]⟩ (.any 22) (.int ⟨1,[(4,1)]⟩) ff ff ff⟩
theorem OL:(IS.chk&&tf.all fun ws=>tf.all fun ind=>(IF ws ind).chk)=true:=by kernel_rfl
theorem Tc:kY=aP 2 kY++.While jt.t jt.b [] jt.p::bk 3 kY:=by kernel_rfl
theorem Ju:eD 704 gL=some (cM 704):=by kernel_rfl
def εQ(P:Params)(W:Wr)(v:List Nat):Ev:=dz P (tn 0 [W.n,0,W.col]) (tn [] [W.T,[],v])
theorem Ep{v:List Nat}(h:fj W 0)(hl:v.length≤100):aM βQ (εQ P W v):=gx (by
 have e0:(0:Int)≤0∧(0:Int)≤0:=⟨bz _,bz _⟩;have h1:=h.c1;have h2:=h.n1;have h3:=h.t1;exact⟨⟨h.n0,by show W.n≤100000;lia⟩,⟨bK _,by show (W.T.length:Int)≤100000;lia⟩,⟨e0.1,(by decide:(0:Int)≤100000)⟩,e0,⟨h.c0,by show W.col≤600;lia⟩,⟨bK _,by show (v.length:Int)≤100;lia⟩,trivial⟩)
def qB(ws u:Bool)(v:List Nat):List Nat×Int:=(eo ws++((bB u v []).1++[34]),2+(bB u v []).2)
theorem HK(u:Bool):∀ (post s:List Nat),(∀ d∈post,d∈aZ)→(bB u post s).1=s++post.flatMap (bL u):=by
 intro L0;induction L0 with
 |nil=>
  intro s _;exact(af s).symm
 |cons d r ih=>
  intro s ha;show (Bool.rec (motive:=fun U=>List Nat×Int) (bB u r (s++[d])) (s++(bL u d++(bB u r []).1),dY s+1+(bB u r []).2) (spec u d)).1=_;rw[List.flatMap_cons];cases hs:spec u d with
  |true=>show s++(bL u d++(bB u r []).1)=_;rw[ih [] (fun e he=>ha e (.tail _ he))];rfl
  |false=>
   show (bB u r (s++[d])).1=_;have e:bL u d=[d]:=by
    have t:∀ c∈aZ,∀ u,spec u c=false→bL u c=[c]:=by
     have k:(aZ.all fun c=>tf.all fun u=>spec u c ||co (bL u c) [c])=true:=by kernel_rfl
     intro c hc u hs;have:=aq (aq k c hc) u (cU u);rw[hs] at this;exact gJ.mp this
    exact t d (ha d (.head _)) u hs
   rw[ih _ (fun e he=>ha e (.tail _ he)),e,aX]
theorem Hg(u:Bool):∀ (post s:List Nat),0≤(bB u post s).2∧(bB u post s).2≤2*post.length+1:=by
 intro L0;induction L0 with
 |nil=>
  intro s;have:=u2 s;exact⟨this.1,by show dY s≤2*0+1;lia⟩
 |cons d r ih=>
  intro s;show 0≤(Bool.rec (motive:=fun U=>List Nat×Int) (bB u r (s++[d])) (s++(bL u d++(bB u r []).1),dY s+1+(bB u r []).2) (spec u d)).2∧(Bool.rec (motive:=fun U=>List Nat×Int) (bB u r (s++[d])) (s++(bL u d++(bB u r []).1),dY s+1+(bB u r []).2) (spec u d)).2≤_;rw[bb];cases spec u d with
  |true=>have a:=u2 s;have b:=ih [];exact⟨by show 0≤dY s+1+_;lia,by show dY s+1+_≤_;push_cast;lia⟩
  |false=>have b:=ih (s++[d]);exact⟨b.1,by have:=b.2;show (bB u r (s++[d])).2≤_;push_cast;lia⟩
theorem vL(u:Bool):∀ v:List Nat,(v.flatMap (bL u)).length≤4*v.length:=by
 intro L0;induction L0 with
 |nil=>
  exact Nat.le_refl _
 |cons d r ih=>
  rw[List.flatMap_cons,ax,bb];have:=sq u d;have:=ih;lia
section
variable {w:World}{mg mb:Str→Option Value}
theorem RB{ε0:Ev}(hw:ε0.P=w.params)(he:ε0.Ok)(h21:x 21=I bw)(h19:x 19=.bool u)(hsp:sp=true→bw=1000)(hbw:0≤bw∧bw≤1000)
  (ha:∀ d∈v,d∈aZ) (hl:v.length≤90) (hB:fj W (v.length+10)) :
  fnIn (cE w.params) 704=true∧Rz (ab w mg mb ε0) 205 (bc c x W) 704 [.cell 5,.str (.k v),.bool sp] .none (bc c x {W.adq (qB W.ws u v) with ws:=false,ind:=false,oe:=false}):=by
 have aa:=aB OL;have hA:=aq (aq aa.2 W.ws (cU _)) W.ind (cU _);have lo:(eo W.ws).length≤2:=by cases W.ws<;>decide
 have st:∀ {T:SS} {d:Int} {col:am} {ws ind oe:AV} {Z W':Wr} {b:AV},T.val (εQ ε0.P Z v)=W'.T→Z.n+d=W'.n→col.val (εQ ε0.P Z v)=W'.col→W'.line=Z.line→flA (ai (εQ ε0.P Z v) (vW x (hD Z (.bool sp) b)) c) ws=.bool W'.ws→flA (ai (εQ ε0.P Z v) (vW x (hD Z (.bool sp) b)) c) ind=.bool W'.ind→flA (ai (εQ ε0.P Z v) (vW x (hD Z (.bool sp) b)) c) oe=.bool W'.oe →
   bC (ai (εQ ε0.P Z v) (vW x (hD Z (.bool sp) b)) c) (jc (xS []) T ⟨d,[(0,1)]⟩ (.any 22) (.int col) ws ind oe)=bc c x W':=by
  intro T d col ws ind oe Z W' b a1 a2 a3 a4 a5 a6 a7;refine xg (tR fun p hp=>nomatch hp) a1 (by show d+(1*Z.n+0)=W'.n;lia) (by show I Z.line=_;rw[a4]) (by show AV.int (.k (col.val _))=_;rw[a3];rfl) a5 a6 a7
 have b0:fj W 0:=hB.mono (by lia);have e34:(aA (eo W.ws):Int)=(eo W.ws).length:=by rw[b7]
 generalize hW1:({W.adq (eo W.ws,1) with ws:=false,ind:=false,oe:=false}:Wr)=W1;have A1:aQ (ab w mg mb ε0) 150 (aP 2 kY) ⟨[(aJ,.cell 5),(dg,.str (.k v)),(lC,.bool sp)],dP⟩ (bc c x W) .next ⟨eL (.k ([]++([]++v))) (.bool sp) (I (([]:List Nat).length)) (I ((([]:List Nat).length:Int)+([]:List Nat).length)),dP⟩ (bc c x W1):=by
  refine(ck (mg:=mg) (mb:=mb) (v:=vW x (hD W (.bool sp) .none)) (z:=c) hw (ε:=εQ ε0.P W v) rfl (bM _ _ _) (IF W.ws W.ind) (Ep b0 (by lia)) ⟨rfl,(by decide:3≤12),rfl⟩ hA).cast ?_ ?_ rfl ?_ ?_
  ·show (⟨[(aJ,AV.cell 5),(dg,AV.str (.k (v++[]))),(lC,.bool sp)],dP⟩ : ac)=_;rw[af]
  ·exact st (Z:=W) (af _) (aY _) (bQ _ 4) rfl rfl rfl rfl
  ·show (⟨[(aJ,AV.cell 5),(dg,AV.str (.k (v++[]))),(lC,.bool sp),(nU,AV.int (.k ((am.k 0).val _))),(o5,AV.int (.k ((am.k 0).val _)))],dP⟩ : ac)=_
   rw[af,bV];rfl
  ·rw[←hW1]
   refine st (Z:=W) ?_ rfl ?_ rfl rfl rfl rfl
   ·show W.T++(eo W.ws++[])=W.T++eo W.ws;rw[af]
   ·show (aA (eo W.ws):Int)+(1*W.col+0)=W.col+((eo W.ws).length:Int);rw[e34];lia
 have q1:=hB.c0;have q2:=hB.c1;have q3:=hB.n0;have q4:=hB.n1;have q5:=hB.t1;have b1:fj W1 (v.length+8):=by
  rw[←hW1];exact⟨by show 0≤W.col+((eo W.ws).length:Int);lia,by show W.col+((eo W.ws).length:Int)+5*(v.length+8)≤600;lia,by show 0≤W.n+1;lia,by show W.n+1+2*(v.length+8)≤100000;lia,by show ((W.T++eo W.ws).length:Int)+5*(v.length+8)≤100000;rw[ax];push_cast;lia⟩
 have L:=LD (mg:=mg) (mb:=mb) (c:=c) hw h21 h19 hsp hbw v [] [] W1 ha (by show 0+0+v.length≤99;lia) (b1.mono (by show (0:Int)+v.length+1≤_;lia));replace L:=Dz.while_ (pos:=jt.p) L;have k1:=HK u v [] ha;have k2:=Hg u v [];have k3:=vL u v;have k1':((bB u v []).1.length:Int)≤4*v.length:=by rw[k1];show ((v.flatMap (bL u)).length:Int)≤_;lia
 generalize hW2:W1.adq (bB u v [])=W2 at L;have f2:W2.ws=false∧W2.ind=false∧W2.oe=false:=by rw[←hW2,←hW1];exact⟨rfl,rfl,rfl⟩
 have b2:fj W2 0:=by
  rw[←hW2];have r1:=b1.c0;have r2:=b1.c1;have r3:=b1.n0;have r4:=b1.n1;have r5:=b1.t1;exact⟨by show 0≤W1.col+((bB u v []).1.length:Int);lia,by show W1.col+((bB u v []).1.length:Int)+5*0≤600;lia,by show 0≤W1.n+(bB u v []).2;lia,by show W1.n+(bB u v []).2+2*0≤100000;lia,by show ((W1.T++(bB u v []).1).length:Int)+5*0≤100000;rw[ax];push_cast;lia⟩
 have Z1:aQ (ab w mg mb ε0) 150 (bk 3 kY) ⟨[(aJ,.cell 5)],dP⟩ (bc c x W2) .next ⟨[],dP⟩ (bc c x (W2.adq ([34],1))):=by
  refine(ck (mg:=mg) (mb:=mb) (v:=vW x (hD W2 (.bool sp) .none)) (z:=c) hw (ε:=εQ ε0.P W2 v) rfl (bM _ _ _) IS (Ep b2 (by lia)) ⟨rfl,(by decide:3≤12),rfl⟩ aa.1).cast rfl ?_ rfl rfl ?_
  ·exact st (Z:=W2) (af _) (aY _) (bQ _ 4) rfl (congrArg AV.bool f2.1.symm) (congrArg AV.bool f2.2.1.symm) (congrArg AV.bool f2.2.2.symm)
  ·refine st (Z:=W2) ?_ rfl ?_ rfl (congrArg AV.bool f2.1.symm) (congrArg AV.bool f2.2.1.symm) (congrArg AV.bool f2.2.2.symm)
   ·show W2.T++([34]++[])=W2.T++[34];rfl
   ·show (1:Int)+(1*W2.col+0)=W2.col+1;lia
 have B:aQ (ab w mg mb ε0) 200 kY ⟨[(aJ,.cell 5),(dg,.str (.k v)),(lC,.bool sp)],dP⟩ (bc c x W) .next ⟨[],dP⟩ (bc c x {W.adq (qB W.ws u v) with ws:=false,ind:=false,oe:=false}):=by
  have R:=(A1.append (L.cons Z1)).le (n:=200) (by decide);rw[←Tc] at R;have e:W2.adq ([34],1)={W.adq (qB W.ws u v) with ws:=false,ind:=false,oe:=false}:=by
   rw[←hW2,←hW1];unfold Wr.adq qB;dsimp only;have e1:W.col+((eo W.ws).length:Int)+((bB u v []).1.length:Int)+(([34]:List Nat).length:Int)=W.col+((eo W.ws++((bB u v []).1++[34])).length:Int):=by rw[ax,ax];push_cast;lia
   have e2:W.n+1+(bB u v []).2+1=W.n+(2+(bB u v []).2):=by lia
   rw[e1,e2];simp only [aX]
  rw[e] at R;exact R
 exact H9 hw he Ju (by kernel_rfl) B rfl
end
end
end
section
def mu:List Nat→Bool|[]=>false|c::_=>aC c
def kQ(u:Bool)(c:Nat):Bool:=tC c ||(eg c&&u)
noncomputable def dT(u:Bool):List Nat→Bool|[]=>true|c::r=>!(Nat.beq c 32&&(aF r ||mu r))&&(kQ u c&&dT u r)
noncomputable def ox(F:Nat→Bool):Bool:=F 6 ||(F 9 ||F 3)
theorem UC(u:Bool):∀ (v:List Nat) (first:Bool) (F:Nat→Bool) (pw ps pb:Bool),ox (j5 u v first F pw ps pb).1=(ox F ||((ps&&mu v) ||!dT u v)):=by
 intro L0;induction L0 with
 |nil=>
  intro _ F _ ps _;show ox F=(ox F ||((ps&&false) ||false));cases ps<;>cases ox F<;>rfl
 |cons c r ih=>
  intro first F pw ps pb
  show ox (j5 u r false (fun k=>jd u first (aF r) c pw (fI (c::r)) ps pb k ||F k) (jB c) (Nat.beq c 32) (aC c)).1=_;rw[ih];show ((((Nat.beq c 32&&aF r) ||F 6) ||(((aC c&&ps) ||F 9) ||((!tC c&&!(eg c&&u)) ||F 3))) ||((Nat.beq c 32&&mu r) ||!dT u r))=((F 6 ||(F 9 ||F 3)) ||((ps&&aC c) ||!(!(Nat.beq c 32&&(aF r ||mu r))&&((tC c ||(eg c&&u))&&dT u r))));generalize Nat.beq c 32=a,aF r=b,mu r=d,aC c=e,tC c=f,(eg c&&u)=g,dT u r=h,F 6=i,F 9=j,F 3=k;revert a b d e f g h i j k ps;decide +kernel
theorem PG(u:Bool):∀ (v:List Nat) (first:Bool) (F:Nat→Bool) (pw ps pb:Bool),(j5 u v first F pw ps pb).1 2=(F 2 ||v.any aC):=by
 intro L0;induction L0 with
 |nil=>
  intro _ F _ _ _;show F 2=(F 2 ||false);rw[Bool.or_false]
 |cons c r ih=>
  intro first F pw ps pb
  show (j5 u r false (fun k=>jd u first (aF r) c pw (fI (c::r)) ps pb k ||F k) (jB c) (Nat.beq c 32) (aC c)).1 2=_;rw[ih];show ((aC c ||F 2) ||r.any aC)=(F 2 ||(aC c ||r.any aC));rw[←Bool.or_assoc,Bool.or_comm (aC c)]
theorem ME(u:Bool)(v:List Nat):sK u v=v.any aC:=by
 unfold sK dN;rw[PG];rfl
theorem UG(u:Bool)(v:List Nat):jL u v 4=dT u v:=by
 have h:ox (dN u v)=!dT u v:=by unfold dN;rw[UC];rfl
 replace h:(dN u v 6 ||(dN u v 9 ||dN u v 3))=!dT u v:=h;have e:jL u v 4=!(dN u v 6 ||(dN u v 9 ||dN u v 3)):=by
  unfold jL;show (((((((true&&!(_&&false))&&!((dN u v 6 ||false)&&true))&&!((dN u v 8 ||false)&&false))&&!((dN u v 9 ||(dN u v 3 ||false))&&true))&&!((dN u v 2 ||false)&&false))&&!((dN u v 1 ||false)&&false))&&!((dN u v 0 ||false)&&false))=_;simp only [Bool.and_false,Bool.not_false,Bool.and_true,Bool.or_false,Bool.true_and,Bool.not_or]
 rw[e,h,Bool.not_not]
end
section
structure eK where
 e:Bool
 m:Bool
 b:Bool
 p:Bool
structure Tx where
 i:Nat
 cl:eK
 fl:Nat
 near:Nat×Nat×Nat
 far:Nat×Nat×Nat
 quo:Nat×Nat
structure WL where
 T:SS
 n:am
 line:am
 col:am
 ws:Bool
 ind:Bool
 oe:Bool
noncomputable def WL.val(ε:Ev)(w:WL):Wr:=⟨w.line.val ε,w.col.val ε,w.n.val ε,w.T.val ε,w.ws,w.ind,w.oe⟩
noncomputable def Sr(c:aw):SS:=match c with|.rows t _=>t|_=>[]
noncomputable def La(c:aw):am:=match c with|.rows _ n=>n|_=>.k 0
noncomputable def FG(v:AV):am:=match v with|.int l=>l|_=>.k 0
noncomputable def Aq(v:AV):Bool:=match v with|.bool b=>b|_=>false
noncomputable def nR(c:Nat→aw)(x:Nat→AV):WL:=⟨Sr (c 4),La (c 4),FG (x 13),FG (x 14),Aq (x 15),Aq (x 16),Aq (x 17)⟩
def AX(c:Nat→aw)(w:WL):Nat→aw:=(tO c 0 [none,none,none,some (.inst 771 [(fc,.cell 4)]),some (.rows w.T w.n)])
def yc(x:Nat→AV)(w:WL):Nat→AV:=(tO (tO x 13 [some (.int w.line),some (.int w.col),some (.bool w.ws),some (.bool w.ind),some (.bool w.oe)]) 0 [some (.cell 3)])
def BE(β:Bd)(c:Nat→aw)(x:Nat→AV)(w:WL):Bool:=lG (aS c x) (aS (AX c w) (yc x w))&&(w.T.all (nZ β)&&(gN β (.int w.T.len) 0 50000&&(gN β (.int w.n) 0 90000&&(gN β (.int w.line) 0 90000&&gN β (.int w.col) 0 200))))
theorem zF(c:Nat→aw)(x:Nat→AV)(w:WL):aS (fun i=>fC (aW ε) (AX c w i)) (fun i=>flA (aW ε) (yc x w i))=bc (fun i=>fC (aW ε) (c i)) (fun i=>flA (aW ε) (x i)) (w.val ε):=rfl
theorem IJ(φ:eY)(c:Nat→aw)(x:Nat→AV):aS (fun i=>fC φ (c i)) (fun i=>flA φ (x i))=bC φ (aS c x):=rfl
theorem oJ{β:Bd}{ε:Ev}(hb:aM β ε){l:am}{lo hi:Int}(h:gN β (.int l) lo hi=true):lo≤l.val ε∧l.val ε≤hi:=by
 apply dh (FK hb h);intro m e h1 h2;cases e;exact⟨h1,h2⟩
structure K2 (W:Wr):Prop where
 l:0≤W.line∧W.line≤90000
 c:0≤W.col∧W.col≤200
 n:0≤W.n∧W.n≤90000
 t:(W.T.length:Int)≤50000
theorem II{ε:Ev}(he:ε.Ok)(hb:aM β ε)(h:BE β c x w=true) :
  aS (fun i=>fC (aW ε) (c i)) (fun i=>flA (aW ε) (x i))=bc (fun i=>fC (aW ε) (c i)) (fun i=>flA (aW ε) (x i)) (w.val ε)∧K2 (w.val ε):=by
 replace h:=aB h;have h2:=aB h.2;have h3:=aB h2.2;have h4:=aB h3.2;have h5:=aB h4.2;refine⟨?_,oJ hb h5.1,oJ hb h5.2,oJ hb h4.1,?_⟩
 ·rw[←zF,IJ,IJ,rN h.1]
 ·have:=(oJ hb h3.1).2
  rw[jn he (uP hb h2.1)] at this;exact this
def Bb(t:Tx)(as:List AV):Bool:=fU cZ as [.str [.var t.i]]
def Nu(t:Tx):AV:=mh (.str [.var t.i]) (.bool t.cl.e) (.bool t.cl.m) (fun k=>Bool.rec (.any (t.fl+k)) (.bool t.cl.b) (Nat.beq k 4))
def wS(u:Bool)(t:Tx):rW:=fun c x as=>gd (Bb t as&&cZ (x 19) (.bool u)) (some (Nu t,c,x))
def wT(w:WL)(t:Tx)(o:Nat×Nat×Nat):WL:=⟨w.T.app [.var o.1],w.n.add (V o.2.2),w.line.add (V o.2.1),.k 0,true,true,t.cl.p⟩
noncomputable def Qc:AV:=.int ⟨0,[(8,2)]⟩
def I7(c:Nat→aw)(x:Nat→AV)(w:WL):Option (AV×(Nat→aw)×(Nat→AV)):=some (.none,AX c w,yc x w)
def wV(β:Bd)(far:Bool)(t:Tx):rW:=fun c x as=>gd (Bb t as&&(t.cl.b&&(BE β c x (nR c x)&&(pE (nR c x).ws false&&(cZ (x 20) (lI 8)&&(cZ (x 22) (.str [.var 5])&&cZ (x 7) (Bool.rec (lI 8) Qc far))))))) (I7 c x (wT (nR c x) t (Bool.rec t.near t.far far)))
def zN(w:WL)(t:Tx):WL:=⟨w.T.app [.lit (eo w.ws),.var t.quo.1],w.n.add (V t.quo.2),w.line,(w.col.add (.k (aA (eo w.ws)))).add (V (2*t.quo.1+1)),false,false,false⟩
def wM(β:Bd)(u:Bool)(sp:Bool)(t:Tx):rW:=fun c x as=>gd (fU cZ as [.str [.var t.i],.bool sp]&&(BE β c x (nR c x)&&(cZ (x 19) (.bool u)&&cZ (x 21) (lI 10)))) (I7 c x (zN (nR c x) t))
def i9{α:Type}(f:α→Option (AV×St))(l:List α):Option (AV×St):=List.rec none (fun t U ih=>Option.rec ih some (f t)) l
theorem s6{α:Type}{f:α→Option (AV×St)}{p:AV×St}:∀ {l:List α},i9 f l=some p→∃ t∈l,f t=some p:=by
 intro L0;induction L0 with
 |nil=>
  intro h;injection h
 |cons t r ih=>
  intro h;replace h:Option.rec (motive:=fun U=>Option (AV×St)) (i9 f r) some (f t)=some p:=h;cases q:f t with
  |none=>rw[q] at h;obtain⟨s,h1,h2⟩:=ih h;exact⟨s,.tail _ h1,h2⟩
  |some v=>rw[q] at h;exact⟨t,.head _,q.trans h⟩
def Hq(wide:Bool):List Bool:=Bool.rec [false] [true,false] wide
def SK(β:Bd)(u wide:Bool)(ts:List Tx):pr:=fun σ f vs=>Bool.rec (Bool.rec (Bool.rec none (i9 (fun sp=>i9 (fun t=>kG β (wM β u sp t) σ vs) ts) (Hq wide)) (Nat.beq f 704))
 (i9 (fun far=>i9 (fun t=>kG β (wV β far t) σ vs) ts) [false,true]) (Nat.beq f 725)) (i9 (fun t=>kG β (wS u t) σ vs) ts) (Nat.beq f 629)
def xK(β:Bd)(u wide:Bool)(ts:List Tx):Sp:=SK β u wide ts
end
section
section
noncomputable def fu(Γ:ar)(x y:AV):Prop:=∀ imm ρ v,VR Γ imm ρ v x→VR Γ imm ρ v y
inductive ou (Γ:ar):List (Str×AV)→List (Str×AV)→Prop
 |nil:ou Γ [] []
 |cons {n:Str} {x y:AV} {r s:List (Str×AV)}:fu Γ x y→ou Γ r s→ou Γ ((n,x)::r) ((n,y)::s)
section
variable {Γ:ar}{imm:List (Addr×Obj)}{ρ:List Addr}
theorem be.conv(h:ou Γ fs gs):∀ {es:List DictEntry},be Γ imm ρ es fs→be Γ imm ρ es gs:=by
 induction h with
 |nil=>exact fun g=>g
 |cons a _ ih=>
  intro es g;apply ow g.inv;intro _ _ v t e0 h1 h2;subst e0;exact .cons (a _ _ _ h1) (ih h2)
theorem ou.names(h:ou Γ fs gs){P:Str→Prop}:(∀ p∈fs,P p.1)→∀ p∈gs,P p.1:=by
 induction h with
 |nil=>exact fun g=>g
 |@cons n x y r s a _ ih=>
  intro g p hp;rcases bU hp with rfl|hp
  ·exact g (n,x) (.head _)
  ·exact ih (fun q hq=>g q (.tail _ hq)) p hp
theorem fu.obj(h:ou Γ fs gs):fu Γ (.obj C fs) (.obj C gs):=fun imm ρ v g=>by
 apply rB g.inv;intro a d es n e0 h1 h2 h3 h4 h5;subst e0;exact .obj h1 h2 (be.conv h h3) (h.names (P:=fun p=>findIn Γ.K (.ref C) p=some none) h4) h5
theorem fu.rfl:fu Γ x x:=fun U U U h=>h
theorem fu.bo(h:Γ.ε.ov i=.bool b):fu Γ (.bool b) (.any i):=fun imm ρ v g=>by
 have e:v=.bool b:=g.inv;rw[e];exact .any h
theorem fu.k{s:SS}(h:s.val Γ.ε=l):fu Γ (.str (.k l)) (.str (.k (s.val Γ.ε))):=by rw[h];exact .rfl
end
structure qt (ε:Ev) (u:Bool) (best:Nat) (nl v:List Nat) (t:Tx):Prop where
 sv:ε.sv t.i=v
 al:∀ c∈v,c∈aZ
 len:v.length≤40
 e:t.cl.e=aF v
 m:t.cl.m=v.any aC
 b:t.cl.b=(!aF v&&dT u v)
 p:t.cl.b=true→t.cl.p=ez best v
 fl:∀ k,k<4→ε.ov (t.fl+k)=.bool (Bool.rec (jL u v k) (Nat.beq k 1 ||(Nat.beq k 2 ||Nat.beq k 3)) (aF v))
 near:ε.sv t.near.1=(cR best nl best v).1∧ε.iv t.near.2.1=(cR best nl best v).2.1∧ε.iv t.near.2.2=(cR best nl best v).2.2
 far:ε.sv t.far.1=(cR best nl (2*best) v).1∧ε.iv t.far.2.1=(cR best nl (2*best) v).2.1∧ε.iv t.far.2.2=(cR best nl (2*best) v).2.2
 quo:ε.sv t.quo.1=(bB u v []).1++[34]∧ε.iv t.quo.2=2+(bB u v []).2
section
variable {w:World}{mg mb:Str→Option Value}{ε:Ev}{β:Bd}{u wide:Bool}{best:Nat}{bw:Int}{nl:List Nat}{t:Tx}{v:List Nat}
theorem yo(h:ε.sv t.i=v):SS.val ε [.var t.i]=v:=by show ε.sv t.i++[]=v;rw[af,h]
theorem Ir(ht:ε.sv t.i=v)(h:Bb t as=true):aO (aW ε) as=[.str (.k v)]:=by
 replace e:as=[.str [.var t.i]]:=il (f:=cZ) (fun x U y e=>fD x y e) h;rw[e];show [AV.str (.k (SS.val ε [.var t.i]))]=_;rw[yo ht]
theorem Jv(hw:ε.P=w.params)(he:ε.Ok)(ht:qt ε u best nl v t)(h:wS u t c x as=some (r,c',x')) :
  fnIn (cE w.params) 629=true∧∃ r',fu (ab w mg mb ε) r' (flA (aW ε) r)∧Rz (ab w mg mb ε) 205 (aS (fun i=>fC (aW ε) (c i)) (fun i=>flA (aW ε) (x i))) 629 (.cell 5::aO (aW ε) as) r' (aS (fun i=>fC (aW ε) (c' i)) (fun i=>flA (aW ε) (x' i))):=by
 apply bJ h;clear h;intro h1 h;(apply j3 h;rintro e1 e2 e3);subst e1;subst e2;subst e3;replace h1:=aB h1;have e19:flA (aW ε) (x' 19)=.bool u:=by rw[fD _ _ h1.2];rfl
 have R:=OA (mg:=mg) (mb:=mb) (z:=fun i=>fC (aW ε) (c' i)) (x:=fun i=>flA (aW ε) (x' i)) hw he e19 ht.al (by have:=ht.len;lia);rw[Ir ht.sv h1.1];refine⟨R.1,vD u v,?_,⟨cF.le (by decide) R.2.h⟩⟩;have e0:SS.val (ab w mg mb ε).ε [.var t.i]=v:=yo ht.sv;have f:∀ k,k<4→fu (ab w mg mb ε) (.bool (Bool.rec (jL u v k) (Nat.beq k 1 ||(Nat.beq k 2 ||Nat.beq k 3)) (aF v))) (.any (t.fl+k)):=fun k hk=>fu.bo (ht.fl k hk);have e4:(Bool.rec (jL u v 4) (Nat.beq 4 1 ||(Nat.beq 4 2 ||Nat.beq 4 3)) (aF v):Bool)=t.cl.b:=by
  rw[ht.b,UG];cases aF v<;>rfl
 have f4:fu (ab w mg mb ε) (.bool (Bool.rec (jL u v 4) (Nat.beq 4 1 ||(Nat.beq 4 2 ||Nat.beq 4 3)) (aF v))) (.bool t.cl.b):=by rw[e4];exact .rfl
 have f5:fu (ab w mg mb ε) (.bool (aF v)) (.bool t.cl.e):=by rw[ht.e];exact .rfl
 have f6:fu (ab w mg mb ε) (.bool (sK u v)) (.bool t.cl.m):=by rw[ht.m,ME];exact .rfl
 exact fu.obj (.cons (fu.k e0) (.cons f5 (.cons f6 (.cons (f 0 (by decide)) (.cons (f 1 (by decide)) (.cons (f 2 (by decide)) (.cons (f 3 (by decide)) (.cons f4 .nil))))))))
theorem L5(hw:ε.P=w.params)(he:ε.Ok)(hb:aM β ε)(h8:ε.iv 8=best)(h5:ε.sv 5=nl)(hbe:best∈fN)(hn:1≤nl.length∧nl.length≤2)(ht:qt ε u best nl v t)(h:wV β far t c x as=some (r,c',x')) :
  fnIn (cE w.params) 725=true∧∃ r',fu (ab w mg mb ε) r' (flA (aW ε) r)∧Rz (ab w mg mb ε) 205 (aS (fun i=>fC (aW ε) (c i)) (fun i=>flA (aW ε) (x i))) 725 (.cell 5::aO (aW ε) as) r' (aS (fun i=>fC (aW ε) (c' i)) (fun i=>flA (aW ε) (x' i))):=by
 apply bJ h;clear h;intro h1 h;generalize hW:nR c x=W at *
 (apply j3 h;rintro rfl rfl rfl);replace h1:=aB h1;have h2:=aB h1.2;have h3:=aB h2.2;have h4:=aB h3.2;have h5':=aB h4.2;have h6:=aB h5'.2;have hws:(W.val ε).ws=false:=sF h4.1;have e20:flA (aW ε) (x 20)=I best:=by rw[fD _ _ h5'.1];show AV.int (.k ((V 8).val ε))=_;rw[bQ,h8];rfl
 have e22:flA (aW ε) (x 22)=.str (.k nl):=by rw[fD _ _ h6.1];show AV.str (.k (ε.sv 5++[]))=_;rw[af,h5]
 have b2:2≤(best:Int)∧(best:Int)≤9:=by
  unfold fN at hbe;simp only [List.mem_cons,List.not_mem_nil,or_false] at hbe;rcases hbe with rfl|rfl|rfl|rfl<;>decide
 have hv:v≠[]:=fun e=>by have:=ht.b;rw[h2.1,e] at this;injection this
 apply aN (II he hb h3.1);intro s1 s2;have q1:=s2.l;have q2:=s2.c;have q3:=s2.n;have q4:=s2.t;have hB:c9 (W.val ε) 1000:=⟨q1.1,by lia,q2.1,by lia,q3.1,by lia,by lia⟩;rw[Ir ht.sv h1.1,s1,zF];have go:∀ (o:Nat×Nat×Nat) (ind:Int),2≤ind∧ind≤40→flA (aW ε) (x 7)=I ind→(ε.sv o.1=(cR best nl ind v).1∧ε.iv o.2.1=(cR best nl ind v).2.1∧ε.iv o.2.2=(cR best nl ind v).2.2) →
   fnIn (cE w.params) 725=true∧∃ r',fu (ab w mg mb ε) r' (flA (aW ε) .none)∧Rz (ab w mg mb ε) 205 (bc (fun i=>fC (aW ε) (c i)) (fun i=>flA (aW ε) (x i)) (W.val ε)) 725 [.cell 5,.str (.k v)] r' (bc (fun i=>fC (aW ε) (c i)) (fun i=>flA (aW ε) (x i)) ((wT W t o).val ε)):=fun o ind hi e7 ho=>by
  have R:=Kb (mg:=mg) (mb:=mb) (c:=fun i=>fC (aW ε) (c i)) (x:=fun i=>flA (aW ε) (x i)) (W:=W.val ε) hw he hbe e7 e20 e22 hn hi hws hv ht.al (by have:=ht.len;lia) hB;have e:({(W.val ε).adv (cR best nl ind v) with ws:=true,ind:=true,oe:=ez best v}:Wr)=(wT W t o).val ε:=by
   unfold WL.val wT Wr.adv;dsimp only;rw[fG,gQ,gQ,bQ,bQ,bV,ho.2.1,ho.2.2,←ho.1,ht.p h2.1];show _=Wr.mk _ _ _ (_++(ε.sv o.1++[])) _ _ _;rw[af]
  rw[e] at R;exact⟨R.1,.none,.rfl,R.2⟩
 cases far with
 |false=>
  refine go t.near best ⟨b2.1,by lia⟩ ?_ ht.near;rw[fD _ _ h6.2];show AV.int (.k ((V 8).val ε))=_;rw[bQ,h8];rfl
 |true=>
  refine go t.far (2*best) ⟨by lia,by lia⟩ ?_ ht.far;rw[fD _ _ h6.2];show AV.int (.k (0+(2*ε.iv 8+0)))=_;rw[h8,Int.zero_add,aY];rfl
theorem NO(hw:ε.P=w.params)(he:ε.Ok)(hb:aM β ε)(h10:ε.iv 10=bw)(hbw:0≤bw∧bw≤1000)(hsp:sp=true→bw=1000)(ht:qt ε u best nl v t)(h:wM β u sp t c x as=some (r,c',x')) :
  fnIn (cE w.params) 704=true∧∃ r',fu (ab w mg mb ε) r' (flA (aW ε) r)∧Rz (ab w mg mb ε) 205 (aS (fun i=>fC (aW ε) (c i)) (fun i=>flA (aW ε) (x i))) 704 (.cell 5::aO (aW ε) as) r' (aS (fun i=>fC (aW ε) (c' i)) (fun i=>flA (aW ε) (x' i))):=by
 apply bJ h;clear h;intro h1 h;generalize hW:nR c x=W at *
 (apply j3 h;rintro rfl rfl rfl);replace h1:=aB h1;have h2:=aB h1.2;have h3:=aB h2.2;have ea:as=[.str [.var t.i],.bool sp]:=il (f:=cZ) (fun x U y e=>fD x y e) h1.1;have e1:aO (aW ε) as=[.str (.k v),.bool sp]:=by rw[ea];show [AV.str (.k (SS.val ε [.var t.i])),.bool sp]=_;rw[yo ht.sv]
 have e19:flA (aW ε) (x 19)=.bool u:=by rw[fD _ _ h3.1];rfl
 have e21:flA (aW ε) (x 21)=I bw:=by rw[fD _ _ h3.2];show AV.int (.k ((V 10).val ε))=_;rw[bQ,h10];rfl
 apply aN (II he hb h2.1);intro s1 s2;have q1:=s2.l;have q2:=s2.c;have q3:=s2.n;have q4:=s2.t;have q5:=ht.len;have hB:fj (W.val ε) (v.length+10):=⟨q2.1,by lia,q3.1,by lia,by lia⟩;rw[e1,s1,zF];have R:=RB (mg:=mg) (mb:=mb) (c:=fun i=>fC (aW ε) (c i)) (x:=fun i=>flA (aW ε) (x i)) (W:=W.val ε) (sp:=sp) hw he e21 e19 hsp hbw ht.al (by lia) hB;have e:({(W.val ε).adq (qB (W.val ε).ws u v) with ws:=false,ind:=false,oe:=false}:Wr)=(zN W t).val ε:=by
  unfold WL.val zN Wr.adq qB;dsimp only;rw[fG,gQ,gQ,gQ,bQ,bQ,bV,he,ht.quo.2];have e3:SS.val ε [.lit (eo W.ws),.var t.quo.1]=eo W.ws++((bB u v []).1++[34]):=by show eo W.ws++(ε.sv t.quo.1++[])=_;rw[af,ht.quo.1]
  have e4:W.col.val ε+((eo W.ws++((bB u v []).1++[34])).length:Int)=W.col.val ε+(aA (eo W.ws):Int)+((ε.sv t.quo.1).length:Int):=by
   rw[b7,ht.quo.1,ax];push_cast;lia
  rw[e3,e4]
 rw[e] at R;exact⟨R.1,.none,.rfl,R.2⟩
theorem KI(hw:ε.P=w.params)(he:ε.Ok)(hb:aM β ε)(h8:ε.iv 8=best)(h5:ε.sv 5=nl)(hbe:best∈fN)(hn:1≤nl.length∧nl.length≤2)(h10:ε.iv 10=bw)(hbw:0≤bw∧bw≤1000)(hsp:wide=true→bw=1000)(ht:∀ t∈ts,∃ v,qt ε u best nl v t) :
  ja (ab w mg mb ε) 180 (xK β u wide ts) :=
 fun σ f vs p h=>by
  replace h:Bool.rec (motive:=fun _=>Option (AV×St)) (Bool.rec (motive:=fun _=>Option (AV×St)) (Bool.rec (motive:=fun _=>Option (AV×St)) none (i9 (fun sp=>i9 (fun t=>kG β (wM β u sp t) σ vs) ts) (Hq wide)) (Nat.beq f 704)) (i9 (fun far=>i9 (fun t=>kG β (wV β far t) σ vs) ts) [false,true]) (Nat.beq f 725)) (i9 (fun t=>kG β (wS u t) σ vs) ts) (Nat.beq f 629)=some p:=h;cases q1:Nat.beq f 629 with
  |true=>
   rw[q1] at h;cases bX q1;apply ah (s6 h);intro t m h;apply bx (ht t m);intro v ht;have R:=w9 (Γ:=ab w mg mb ε) (f:=629) (n:=205) he hb (g:=wS u t) (fun c x as r c' x' hg=>Jv hw he ht hg) h;exact⟨R.1,cF.le (by decide) R.2.h⟩
  |false=>
   rw[q1] at h;cases q2:Nat.beq f 725 with
   |true=>
    rw[q2] at h;cases bX q2;apply ah (s6 h);intro far _ h;apply ah (s6 h);intro t m h;apply bx (ht t m);intro v ht;have R:=w9 (Γ:=ab w mg mb ε) (f:=725) (n:=205) he hb (g:=wV β far t) (fun c x as r c' x' hg=>L5 hw he hb h8 h5 hbe hn ht hg) h;exact⟨R.1,cF.le (by decide) R.2.h⟩
   |false=>
    rw[q2] at h;cases q3:Nat.beq f 704 with
    |true=>
     rw[q3] at h;cases bX q3;apply ah (s6 h);intro sp ms h;apply ah (s6 h);intro t m h;apply bx (ht t m);intro v ht;have R:=w9 (Γ:=ab w mg mb ε) (f:=704) (n:=205) he hb (g:=wM β u sp t) (fun c x as r c' x' hg=>NO hw he hb h10 hbw (fun e=>hsp (by cases wide with|true=>rfl|false=>rw[e] at ms;exact nomatch (cH ms))) ht hg) h;exact⟨R.1,cF.le (by decide) R.2.h⟩
    |false=>rw[q3] at h;injection h
end
end
end
section
noncomputable def βE:Bd:=[(0,80000),(0,30000),(0,80000),(0,0),(0,500),(0,40),(0,0),(0,40),(2,9),(0,0),(0,1000),(1,2),(0,900),(0,0),(0,900),(0,0),(0,900),(0,0),(0,900),(0,0),(0,900),(0,4300),(0,900),(0,4300),(0,900),(0,170),(0,900),(0,4300),(0,900),(0,170),(0,900),(0,4300)]
noncomputable def cV(k:eK):Tx:=⟨2,k,10,(10,12,14),(11,16,18),(12,20)⟩
noncomputable def gX(k:eK):Tx:=⟨3,k,14,(13,22,24),(15,28,30),(14,26)⟩
noncomputable def meth(f:Addr):AV:=.meth f (.cell 5)
structure Eb where
 st:Addr
 sts:List Addr
 inn:Bool
 br:Bool
def Eb.ids(b:Eb):List AV:=Bool.rec [] [.none] b.inn
def Eb.indent(b:Eb):AV:=Bool.rec .none (I 0) b.inn
noncomputable def HO(u br:Bool)(st indent flow oe line col best bw nl:AV)(y:Nat→AV):Nat→AV:=fun i=>match i with
 |0=>.cell 3|1=>.none|2=>.cell 6|3=>st|4=>.cell 7|5=>.none|6=>.cell 8|7=>indent|8=>flow|13=>line|14=>col|15=>.bool br|16=>.bool br|17=>oe|18=>.none|19=>.bool u|20=>best|21=>bw|22=>nl|24=>.none|25=>.none|26=>.none|27=>.none|i=>y i
def iZ(u:Bool)(b:Eb)(oe line col best bw nl:AV)(y:Nat→AV):Nat→AV:=HO u b.br (meth b.st) b.indent (I 0) oe line col best bw nl y
def v4(z:Nat→aw)(b:Eb)(q:List AV)(T:SS)(n:am):Nat→aw:=(tO z 0 [none,none,none,some (.inst 771 [(fc,.cell 4)]),some (.rows T n),none,some (.list (b.sts.map meth)),some (.list q),some (.list b.ids)])
def eS(u:Bool)(b:Eb)(q:List AV)(T:SS)(n:am)(oe line col:AV)(y:Nat→AV):St:=aS (v4 .any b q T n) (iZ u b oe line col (lI 8) (lI 10) (.str [.var 5]) y)
def u5(i:AV)(st:AV)(im:Bool):AV:=.obj 217 [(i8,.none),(lL,.none),(nB,.tup [.bool im,.bool true]),(cT,i),(dM,.none),(dK,.none),(pG,st)]
def xT:AV:=u5 (.str [.lit [107]]) .none true
def Ff(C:Addr):AV:=.obj C [(i8,.none),(lL,.none),(nB,.bool true),(dM,.none),(dK,.none),(uv,.bool false)]
def dE:AV:=Ff 229
def uU:AV:=Ff 253
def dG(C:Addr):AV:=.obj C [(dM,.none),(dK,.none)]
def fM:AV:=.obj 133 [(dM,.none),(dK,.none),(qV,.none)]
def eH:AV:=.obj 165 [(dM,.none),(dK,.none),(p0,.bool true),(vZ,.none),(BK,.none)]
def gW(shut:Bool):AV:=.obj 185 [(dM,.none),(dK,.none),(p0,.bool shut)]
inductive Ec where
 |t2|t3|k|Q|M|SS|D
 |xE (C:Addr)
 |xD (b:Bool)
def dq(v:AV):AV:=u5 v (.str [.lit [124]]) false
def Jo(a b:AV)(e:Ec):AV:=match e with
 |.t2=>dq a|.t3=>dq b|.k=>xT|.Q=>dE|.M=>uU|.SS=>fM|.D=>eH|.xE C=>dG C|.xD b=>gW b
def iV:Ec→AV:=Jo (.str [.var 2]) (.str [.var 3])
structure Ej where
 wide:Bool
 ts:List Tx
 b:Eb
 oe:AV
 q:List Ec
 e:Ec
 b':Eb
 oe':AV
 q':List Ec
 out:SS
noncomputable def gn:AV:=.any 27
noncomputable def JZ:Nat→AV:=fun i=>.any (30+i)
def Ej.P(j:Ej)(u:Bool):St:=eS u j.b (j.q.map iV) [.var 0] (V 0) j.oe (lI 2) (Bool.rec (lI 4) (I 0) j.b.br) JZ
def ig(σ:St)(i:Nat):AV:=match ak σ 5 with|some (.inst _ fs)=>(match ak fs i with|some p=>p.2|none=>.none)|_=>.none
def BA(σ:St):am:=match ak σ 4 with|some (.rows _ n)=>n|_=>.k 0
def Ej.run(j:Ej)(u:Bool):Option (AV×St):=(cX βE (xK βE u j.wide j.ts) 9).cf (j.P u) 330 [.cell 5,iV j.e] []
def Ej.Q(j:Ej)(u:Bool)(n:am)(line col:AV)(y:Nat→AV):St:=eS u j.b' (j.q'.map iV) (SS.app [.var 0] j.out) n j.oe' line col y
noncomputable def oQ:List Nat:=[10,11,12,13,14,15,16,17]
def He(v:AV)(k:Nat):AV:=match v with|.int l=>.int (l.sub (V k))|v=>v
def tg(v:AV):Bool:=match v with|.bool _=>true|v=>cZ v (.any 27)
def Ej.lv(j:Ej):List AV:=hH [.cell 5,iV j.e]
def Ej.ok(j:Ej)(u:Bool)(r:AV)(σ:St)(n:am)(line col:AV)(y:Nat→AV):Bool:=(cZ r .none&&lG σ (j.Q u n line col y))&&((nF oQ βE j.lv (j.P u)&&stays oQ j.lv (j.P u) (Mine.lv .none) (j.Q u n line col y)) &&
 (gN βE (.int (n.sub (V 0))) 0 2000&&(gN βE (He line 2) 0 2000&&(gN βE col 0 500&&(gN βE (.int j.out.len) 0 8700&&(j.out.all (nZ βE)&&(tg j.oe&&tg j.oe')))))))
def Ej.chk(j:Ej)(u:Bool):Bool:=match j.run u with
 |some (r,σ)=>j.ok u r σ (BA σ) (ig σ 13) (Bool.rec (ig σ 14) (I 0) j.b'.br) (ig σ)
 |none=>false
noncomputable def b0:Eb:=⟨359,[],false,true⟩
noncomputable def b1:Eb:=⟨373,[],false,true⟩
noncomputable def bR:Eb:=⟨395,[],false,false⟩
noncomputable def bF:Eb:=⟨487,[388],true,false⟩
noncomputable def bI(br:Bool):Eb:=⟨495,[388],true,br⟩
noncomputable def bE(br:Bool):Eb:=⟨388,[],false,br⟩
noncomputable def bD:Eb:=⟨381,[],false,true⟩
noncomputable def jo:Eb:=⟨366,[],false,true⟩
def gl(br:Bool):SS:=Bool.rec [.var 5] [] br
noncomputable def nS:List Bool:=[false,true]
noncomputable def k6:List eK:=[⟨false,false,true,false⟩,⟨false,true,true,false⟩,⟨false,true,true,true⟩,⟨true,false,false,false⟩,⟨false,true,false,false⟩,⟨false,false,false,false⟩]
noncomputable def eK.oe(k:eK):AV:=.bool (k.b&&k.p)
def kb(t:Tx):SS:=Bool.rec [.lit [32,34],.var t.quo.1] [.var t.near.1] t.cl.b
def jX(t:Tx):SS:=Bool.rec [.lit [32,34],.var t.quo.1] [.var t.far.1] t.cl.b
def eE(l:List SS):SS:=List.rec [] (fun a U ih=>a.app ih) l
noncomputable def jK(l:List Tx):Bool:=l.any fun t=>!t.cl.b
noncomputable def lf:SS:=[.rep 32 ⟨-1,[(8,1)]⟩]
noncomputable def jx(b:Eb)(q:List Ec)(e:Ec):Ej:=⟨false,[],b,gn,q,e,b,gn,q++[e],[]⟩
def yr(br:Bool)(k:eK):Ej:=⟨jK [cV k],[cV k],bI br,gn,[],.t2,bI k.b,k.oe,[],eE [gl br,[.lit [45]],kb (cV k)]⟩
def w7(b:Eb)(k:eK):Ej:=⟨jK [cV k],[cV k],b,gn,[.M,.k,.t2],.xE 265,bI k.b,k.oe,[],eE [gl b.br,[.lit [45]],lf,[.lit [107,58]],jX (cV k)]⟩
def vC(b:Eb)(k:eK):Ej:=⟨jK [cV k],[cV k],b,gn,[.Q,.t2],.xE 241,bI k.b,k.oe,[],eE [gl b.br,[.lit [45]],lf,[.lit [45]],jX (cV k)]⟩
noncomputable def eK.simple(k:eK):Bool:=!k.e&&!k.m
def wx(b:Eb)(k:eK):Ej:=⟨jK [cV k],[cV k],b,gn,[.M,.t2,.t2],.xE 265,bI k.b,k.oe,[],Bool.rec
 (eE [gl b.br,[.lit [45]],lf,[.lit [63]],jX (cV k),gl k.b,[.rep 32 ⟨0,[(8,1)]⟩],[.lit [58]],jX (cV k)])
 (eE [gl b.br,[.lit [45]],lf,[.lit [34]],[.var 12],[.lit [58]],jX (cV k)]) k.simple⟩
noncomputable def vx:SS:=[.lit [46,46,46],.var 5]
noncomputable def xF:Ej:=⟨false,[],b0,.bool false,[],.SS,b1,.bool false,[],[]⟩
noncomputable def wl:Ej:=⟨false,[],b1,gn,[.D],.Q,bR,.bool false,[.Q],[.lit [45,45,45]]⟩
def uk(k:eK):SS:=eE [[.var 5],[.lit [45]],kb (gX k)]
def yh(k3 k:eK):Ej:=⟨jK [gX k3,cV k],[gX k3,cV k],bR,gn,[.Q,.t3],.t2,bI k.b,k.oe,[],eE [uk k3,gl k3.b,[.lit [45]],kb (cV k)]⟩
def ux(k3:eK)(e:Ec):Ej:=⟨jK [gX k3],[gX k3],bR,gn,[.Q,.t3],e,bI k3.b,k3.oe,[e],uk k3⟩
def GC(k3:eK):Ej:=⟨jK [gX k3],[gX k3],bR,gn,[.Q,.t3],.xE 241,bE k3.b,k3.oe,[],uk k3⟩
noncomputable def nj(e f:Ec):Ej:=⟨false,[],bR,gn,[.Q,e],f,bF,gn,[e,f],[]⟩
noncomputable def wJ(br:Bool):Ej:=⟨false,[],bI br,gn,[],.xE 241,bE br,gn,[],[]⟩
def tJ(br shut:Bool):Ej:=⟨false,[],bE br,gn,[],.xD shut,bD,Bool.rec gn (.bool false) shut,[],eE [gl br,Bool.rec [] vx shut]⟩
def w5(oe:Bool):Ej:=⟨false,[],bD,.bool oe,[],.xE 145,jo,.bool false,[],Bool.rec [] vx oe⟩
def uW(b:Eb)(k:eK):Ej:=⟨jK [cV k],[cV k],b,gn,[.D],.t2,bE k.b,k.oe,[],eE [[.lit [45,45,45]],kb (cV k)]⟩
def oh(b:Eb):List Ej:=k6.flatMap fun k=>[w7 b k,vC b k,wx b k]
noncomputable def ti:List (Eb×List Ec×Ec):=[(b1,[],.D),(bD,[],.D),(bR,[.Q],.t2),(bR,[.Q],.M),(bR,[.Q],.Q)] ++
 ([bI false,bI true].flatMap fun b=>[(b,[],.M),(b,[.M],.k),(b,[.M],.t2),(b,[],.Q),(b,[.Q],.t2),(b,[.M,.k],.t2),(b,[.M,.t2],.t2)])++[(bF,[.M,.k],.t2),(bF,[.M,.t2],.t2)]
def Av:List Ej:=(nS.flatMap fun b=>k6.map fun k=>yr b k)++([xF,wl,nj .M .k,nj .M .t2,nj .Q .t2]++((nS.flatMap fun b=>wJ b::w5 b::nS.map fun s=>tJ b s)++(([b1,bD].flatMap fun b=>k6.map fun k=>uW b k)++ti.map fun q=>jx q.1 q.2.1 q.2.2)))
def iB(k3:eK):List Ej:=(k6.map fun k=>yh k3 k)++[ux k3 .M,ux k3 .Q,GC k3]
end
section
section
def Ej.cj(j:Ej)(u:Bool)(n:am)(line col:AV)(y:Nat→AV):kN:=⟨βE,xK βE u j.wide j.ts,9,oQ,j.P u,330,[.cell 5,iV j.e],.none,j.Q u n line col y⟩
structure PD (j:Ej) (n:am) (line col:AV):Prop where
 n:gN βE (.int (n.sub (V 0))) 0 2000=true
 l:gN βE (He line 2) 0 2000=true
 c:gN βE col 0 500=true
 o:gN βE (.int j.out.len) 0 8700=true
 k:j.out.all (nZ βE)=true
 e:tg j.oe=true∧tg j.oe'=true
 z:j.b'.br=true→col=I 0
noncomputable def wF(j:kN)(o:Option (AV×St)):Prop:=(cX j.β j.sp j.d).cf j.P j.f j.vs []=o
theorem kN.chk_of{j:kN}{r:AV}{σ:St}(q:wF j (some (r,σ)))(h1:(cZ r j.r&&lG σ j.Q)=true)(h2:(nF j.fr j.β (hH j.vs) j.P&&stays j.fr (hH j.vs) j.P (Mine.lv j.r) j.Q)=true):j.chk=true:=by
 unfold wF at q;unfold kN.chk;rw[q];exact Bool.and_eq_true_iff.mpr ⟨h1,h2⟩
theorem Ej.runIs(j:Ej)(u:Bool)(n:am)(line col:AV)(y:Nat→AV):wF (j.cj u n line col y) (j.run u):=by
 unfold wF Ej.cj Ej.run;exact rfl
theorem Ej.sound{j:Ej}{u:Bool}(h:j.chk u=true):∃ n line col y,(j.cj u n line col y).chk=true∧PD j n line col:=by
 have k:=j.runIs u;unfold Ej.chk at h;generalize j.run u=o at h k;cases o with
 |none=>injection h
 |some p=>
  obtain⟨r,σ⟩:=p;replace h:j.ok u r σ (BA σ) (ig σ 13) (Bool.rec (ig σ 14) (I 0) j.b'.br) (ig σ)=true:=h;have hz:j.b'.br=true→(Bool.rec (ig σ 14) (I 0) j.b'.br:AV)=I 0:=fun e=>by rw[e]
  generalize BA σ=n,(Bool.rec (ig σ 14) (I 0) j.b'.br:AV)=col at h hz;replace h:=aB h;have h2:=aB h.2;have h3:=aB h2.2;have h4:=aB h3.2;have h5:=aB h4.2;have h6:=aB h5.2;have h7:=aB h6.2;have H:(j.cj u n (ig σ 13) col (ig σ)).chk=true:=kN.chk_of (k n (ig σ 13) col (ig σ)) h.1 h2.1;exact⟨n,ig σ 13,col,ig σ,H,h3.1,h4.1,h5.1,h6.1,h7.1,aB h7.2,hz⟩
structure Gs where
 u:Bool
 best:Nat
 nl:List Nat
 bw:Int
structure Es where
 T:List Nat
 n:Int
 line:Int
 col:Int
 oe:Bool
 y:Nat→AV
def j0(g:Gs)(z:Nat→aw)(b:Eb)(q:List AV)(E:Es):St:=aS (v4 z b q (.k E.T) (.k E.n)) (iZ g.u b (.bool E.oe) (I E.line) (I E.col) (I g.best) (I g.bw) (.str (.k g.nl)) E.y)
def εE(P:Params)(g:Gs)(E:Es)(v v3:List Nat):Ev:=dz P
 (fun i=>match i with
  |0=>E.n|1=>E.line|2=>E.col|4=>g.best|5=>g.bw
  |6=>(cR g.best g.nl g.best v).2.1|7=>(cR g.best g.nl g.best v).2.2|8=>(cR g.best g.nl (2*g.best) v).2.1|9=>(cR g.best g.nl (2*g.best) v).2.2|10=>2+(bB g.u v []).2
  |11=>(cR g.best g.nl g.best v3).2.1|12=>(cR g.best g.nl g.best v3).2.2|13=>2+(bB g.u v3 []).2|14=>(cR g.best g.nl (2*g.best) v3).2.1|15=>(cR g.best g.nl (2*g.best) v3).2.2|_=>0)
 (fun i=>match i with
  |0=>E.T|2=>v|3=>v3|5=>g.nl|10=>(cR g.best g.nl g.best v).1|11=>(cR g.best g.nl (2*g.best) v).1|12=>(bB g.u v []).1++[34]|13=>(cR g.best g.nl g.best v3).1|14=>(bB g.u v3 []).1++[34]|15=>(cR g.best g.nl (2*g.best) v3).1|_=>[])
def nw(u:Bool)(v:List Nat)(k:Nat):Bool:=Bool.rec (jL u v k) (Nat.beq k 1 ||(Nat.beq k 2 ||Nat.beq k 3)) (aF v)
def hF(g:Gs)(E:Es)(v v3:List Nat):Nat→AV:=fun i=>match i with
 |10=>.bool (nw g.u v 0)|11=>.bool (nw g.u v 1)|12=>.bool (nw g.u v 2)|13=>.bool (nw g.u v 3)
 |14=>.bool (nw g.u v3 0)|15=>.bool (nw g.u v3 1)|16=>.bool (nw g.u v3 2)|17=>.bool (nw g.u v3 3)
 |_=>.bool E.oe
def hE(g:Gs)(E:Es)(v v3:List Nat):Nat→AV:=vW E.y (hF g E v v3)
def ce(g:Gs)(v:List Nat):eK:=⟨aF v,v.any aC,!aF v&&dT g.u v,(!aF v&&dT g.u v)&&ez g.best v⟩
structure gF (v:List Nat):Prop where
 al:∀ c∈v,c∈aZ
 len:v.length≤40
structure eX (g:Gs):Prop where
 b:g.best∈fN
 nl:1≤g.nl.length∧g.nl.length≤2
 w:0≤g.bw∧g.bw≤1000
structure zo (E:Es):Prop where
 t:E.T.length≤30000
 n:0≤E.n∧E.n≤80000
 l:0≤E.line∧E.line≤80000
 c:0≤E.col∧E.col≤500
section
variable {w:World}{mg mb:Str→Option Value}{ε0:Ev}{g:Gs}{E:Es}{v v3:List Nat}{z:Nat→aw}
theorem je(hg:eX g):2≤(g.best:Int)∧(g.best:Int)≤9:=by
 have h:=hg.b;unfold fN at h;simp only [List.mem_cons,List.not_mem_nil,or_false] at h;rcases h with h|h|h|h<;>rw[h]<;>decide
theorem so(hg:eX g)(hv:gF v){ind:Int}(hi:2≤ind∧ind≤40):((cR g.best g.nl ind v).1.length:Int)≤4300∧(0≤(cR g.best g.nl ind v).2.1∧(cR g.best g.nl ind v).2.1≤900)∧(0≤(cR g.best g.nl ind v).2.2∧(cR g.best g.nl ind v).2.2≤900):=by
 have h:=tV hg.nl hi v true [];have z:((([]:List Nat).length:Nat):Int)=0:=rfl;have h1:=h.t;have h2:=h.l0;have h3:=h.l1;have h4:=h.n0;have h5:=h.n1;have h6:=hv.len;have h7:=DX g.best v;have h8:=hg.nl.2;rw[z] at h1 h3 h5;refine⟨?_,⟨?_,?_⟩,?_,?_⟩
 ·show ((32::124::(cI g.best v++(g.nl++(cA g.nl ind v true []).1))).length:Int)≤_
  rw[bb,bb,ax,ax];push_cast;lia
 ·show 0≤1+(cA g.nl ind v true []).2.1;lia
 ·show 1+(cA g.nl ind v true []).2.1≤900;lia
 ·show 0≤2+(cA g.nl ind v true []).2.2;lia
 ·show 2+(cA g.nl ind v true []).2.2≤900;lia
theorem vU(hv:gF v)(u:Bool):(((bB u v []).1++[34]).length:Int)≤170∧(0≤2+(bB u v []).2∧2+(bB u v []).2≤900):=by
 have h1:=HK u v [] hv.al;have h2:=vL u v;have h3:=Hg u v [];have h4:=hv.len;rw[h1];refine⟨?_,by lia,by lia⟩;show ((v.flatMap (bL u)++[34]).length:Int)≤170;rw[ax];show (((v.flatMap (bL u)).length+1:Nat):Int)≤170;push_cast;lia
theorem Md(hg:eX g)(hE:zo E)(hv:gF v)(h3:gF v3)(P:Params):aM βE (εE P g E v v3):=gx (by
 have e0:(0:Int)≤0∧(0:Int)≤0:=⟨bz _,bz _⟩;have b:=je hg;have A:=so hg hv (ind:=g.best) ⟨b.1,by lia⟩;have B:=so hg hv (ind:=2*g.best) ⟨by lia,by lia⟩;have C:=so hg h3 (ind:=g.best) ⟨b.1,by lia⟩;have G:=so hg h3 (ind:=2*g.best) ⟨by lia,by lia⟩;have D:=vU hv g.u;have F:=vU h3 g.u;have c0:∀ l:List Nat,(0:Int)≤l.length:=fun l=>bK _;have n1:=hg.nl;have t:=hE.t;have l1:=hv.len;have l3:=h3.len;exact⟨hE.n,⟨c0 _,by show (E.T.length:Int)≤30000;lia⟩,hE.l,e0,hE.c,⟨c0 _,by show (v.length:Int)≤40;lia⟩,e0,⟨c0 _,by show (v3.length:Int)≤40;lia⟩,b,e0,hg.w,⟨by show (1:Int)≤(g.nl.length:Int);lia,by show (g.nl.length:Int)≤2;lia⟩,
  A.2.1,e0,A.2.2,e0,B.2.1,e0,B.2.2,e0,D.2,⟨c0 _,A.1⟩,C.2.1,⟨c0 _,B.1⟩,C.2.2,⟨c0 _,D.1⟩,F.2,⟨c0 _,C.1⟩,G.2.1,⟨c0 _,F.1⟩,G.2.2,⟨c0 _,G.1⟩,trivial⟩)
end
end
end
section
section
def φE(P:Params)(g:Gs)(E:Es)(v v3:List Nat)(z:Nat→aw):eY:=ai (εE P g E v v3) (hE g E v v3) z
noncomputable def ri(x:AV)(oe:Bool):Bool:=match x with|.bool b=>b|_=>oe
def cu(v v3:List Nat):Ec→AV:=Jo (.str (.k v)) (.str (.k v3))
structure Od (E E':Es) (o:List Nat):Prop where
 t:E'.T=E.T++o
 n:E.n≤E'.n∧E'.n≤E.n+2000
 l:E.line≤E'.line∧E'.line≤E.line+2000
 c:0≤E'.col∧E'.col≤500
 o:o.length≤8700
section
variable {w:World}{mg mb:Str→Option Value}{ε0:Ev}{g:Gs}{E:Es}{v v3:List Nat}{z:Nat→aw}{P:Params}
theorem Tt:∀ l:List Addr,aO (φE P g E v v3 z) (l.map meth)=l.map meth:=by
 intro L0;induction L0 with
 |nil=>
  exact rfl
 |cons a r ih=>
  show flA (φE P g E v v3 z) (meth a)::aO (φE P g E v v3 z) (r.map meth)=_;rw[ih];rfl
theorem HB:∀ l:List Ec,aO (φE P g E v v3 z) (l.map iV)=l.map (cu v v3):=by
 intro L0;induction L0 with
 |nil=>
  exact rfl
 |cons e r ih=>
  show flA (φE P g E v v3 z) (iV e)::aO (φE P g E v v3 z) (r.map iV)=_;rw[ih];have h2:SS.val (εE P g E v v3) [.var 2]=v:=af v;have h3:SS.val (εE P g E v v3) [.var 3]=v3:=af v3;have e:flA (φE P g E v v3 z) (iV e)=cu v v3 e:=by
   cases e with
   |t2=>show u5 (.str (.k (SS.val (εE P g E v v3) [.var 2]))) _ _=_;rw[h2];rfl
   |t3=>show u5 (.str (.k (SS.val (εE P g E v v3) [.var 3]))) _ _=_;rw[h3];rfl
   |_=>rfl
  rw[e];rfl
theorem T5(e:Ec):flA (φE P g E v v3 z) (iV e)=cu v v3 e:=(List.cons.inj (HB [e])).1
theorem M1(b:Eb):aO (φE P g E v v3 z) b.ids=b.ids:=by
 obtain⟨st,sts,inn,br⟩:=b;cases inn<;>rfl
theorem F6{q:List Ec}{T:SS}{n:am}{E':Es}(hT:T.val (εE P g E v v3)=E'.T)(hn:n.val (εE P g E v v3)=E'.n)(ho:flA (φE P g E v v3 z) oe=.bool E'.oe)(hl:flA (φE P g E v v3 z) line=I E'.line)(hc:flA (φE P g E v v3 z) col=I E'.col)(hy:∀ i,flA (φE P g E v v3 z) (y i)=E'.y i) :
  bC (φE P g E v v3 z) (eS g.u b (q.map iV) T n oe line col y)=j0 g z b (q.map (cu v v3)) E':=by
 have e8:flA (φE P g E v v3 z) (lI 8)=I g.best:=by show AV.int (.k ((V 8).val _))=_;rw[bQ];rfl
 have e10:flA (φE P g E v v3 z) (lI 10)=I g.bw:=by show AV.int (.k ((V 10).val _))=_;rw[bQ];rfl
 have e5:flA (φE P g E v v3 z) (.str [.var 5])=.str (.k g.nl):=by show AV.str (.k (g.nl++[]))=_;rw[af]
 have e0:flA (φE P g E v v3 z) (I 0)=I 0:=by show AV.int (.k ((am.k 0).val _))=_;rw[bV];rfl
 have ei:flA (φE P g E v v3 z) b.indent=b.indent:=by
  obtain⟨st,sts,inn,br⟩:=b;cases inn
  ·rfl
  ·exact e0
 have h1:bC (φE P g E v v3 z) (eS g.u b (q.map iV) T n oe line col y)=[z 0,z 1,z 2,.inst 771 [(fc,.cell 4)],.rows (.k (T.val (εE P g E v v3))) (.k (n.val (εE P g E v v3))),eF (fun i=>flA (φE P g E v v3 z) (iZ g.u b oe line col (lI 8) (lI 10) (.str [.var 5]) y i)),.list (aO (φE P g E v v3 z) (b.sts.map meth)),.list (aO (φE P g E v v3 z) (q.map iV)),.list (aO (φE P g E v v3 z) b.ids),z 9]:=rfl;have h2:eF (fun i=>flA (φE P g E v v3 z) (iZ g.u b oe line col (lI 8) (lI 10) (.str [.var 5]) y i))=eF (iZ g.u b (.bool E'.oe) (I E'.line) (I E'.col) (I g.best) (I g.bw) (.str (.k g.nl)) E'.y):=by
  show eF (HO g.u b.br (meth b.st) (flA (φE P g E v v3 z) b.indent) (flA (φE P g E v v3 z) (I 0)) (flA (φE P g E v v3 z) oe) (flA (φE P g E v v3 z) line) (flA (φE P g E v v3 z) col) (flA (φE P g E v v3 z) (lI 8)) (flA (φE P g E v v3 z) (lI 10)) (flA (φE P g E v v3 z) (.str [.var 5])) (fun i=>flA (φE P g E v v3 z) (y i)))=_;rw[ei,e0,ho,hl,hc,e8,e10,e5,funext hy];rfl
 rw[h1,h2,hT,hn,Tt,HB,M1];rfl
theorem Gk(u:Bool)(best:Nat)(v:List Nat)(h:(!aF v&&dT u v)=true):((!aF v&&dT u v)&&ez best v)=ez best v:=by rw[h];rfl
theorem SZ(hv:gF v)(fk:ic oQ (hE g E v v3) ov):qt ((εE P g E v v3).wO ov cv) g.u g.best g.nl v (cV (ce g v)) where
 sv:=rfl
 al:=hv.al
 len:=hv.len
 e:=rfl
 m:=rfl
 b:=rfl
 p:=Gk g.u g.best v
 fl:=fun k hk=>by
  have f:∀ i,i∈oQ→∀ b,hE g E v v3 i=.bool b→ov i=.bool b:=fun i hi b e=>by
   apply ah (fk i hi);intro b' e1 e2;rw[e] at e1;injection e1 with e1;rw[e1];exact e2
  match k,hk with
  |0,_=>exact f 10 (by decide) _ rfl
  |1,_=>exact f 11 (by decide) _ rfl
  |2,_=>exact f 12 (by decide) _ rfl
  |3,_=>exact f 13 (by decide) _ rfl
 near:=⟨rfl,by kernel_rfl,by kernel_rfl⟩
 far:=⟨rfl,by kernel_rfl,by kernel_rfl⟩
 quo:=⟨rfl,by kernel_rfl⟩
theorem Rr(h3:gF v3)(fk:ic oQ (hE g E v v3) ov):qt ((εE P g E v v3).wO ov cv) g.u g.best g.nl v3 (gX (ce g v3)) where
 sv:=rfl
 al:=h3.al
 len:=h3.len
 e:=rfl
 m:=rfl
 b:=rfl
 p:=Gk g.u g.best v3
 fl:=fun k hk=>by
  have f:∀ i,i∈oQ→∀ b,hE g E v v3 i=.bool b→ov i=.bool b:=fun i hi b e=>by
   apply ah (fk i hi);intro b' e1 e2;rw[e] at e1;injection e1 with e1;rw[e1];exact e2
  match k,hk with
  |0,_=>exact f 14 (by decide) _ rfl
  |1,_=>exact f 15 (by decide) _ rfl
  |2,_=>exact f 16 (by decide) _ rfl
  |3,_=>exact f 17 (by decide) _ rfl
 near:=⟨rfl,by kernel_rfl,by kernel_rfl⟩
 far:=⟨rfl,by kernel_rfl,by kernel_rfl⟩
 quo:=⟨rfl,by kernel_rfl⟩
noncomputable def sZ(g:Gs)(v v3:List Nat)(ts:List Tx):Prop:=∀ t∈ts,t=cV (ce g v)∨t=gX (ce g v3)
theorem M7(hw:ε0.P=w.params)(hg:eX g)(hE':zo E)(hv:gF v)(h3:gF v3)(j:Ej)(hj:j.chk g.u=true)(hts:sZ g v v3 j.ts)(hwd:j.wide=true→g.bw=1000)(hoe:ri j.oe E.oe=E.oe)(hbr:j.b.br=true→E.col=0) :
  ∃ E',fnIn (cE w.params) 330=true∧Rz (ab w mg mb ε0) 295 (j0 g z j.b (j.q.map (cu v v3)) E) 330 [.cell 5,cu v v3 j.e] .none (j0 g z j.b' (j.q'.map (cu v v3)) E')∧Od E E' (j.out.val (εE ε0.P g E v v3))∧E'.oe=ri j.oe' E.oe∧(j.b'.br=true→E'.col=0):=by
 obtain⟨n,line,col,y,hc,B⟩:=Ej.sound hj;have hb:=Md hg hE' hv h3 ε0.P;have he:(εE ε0.P g E v v3).Ok:=bM _ _ _;have R:=HP (mg:=mg) (mb:=mb) (b:=180) (v:=hE g E v v3) (z:=z) hw (ε:=εE ε0.P g E v v3) rfl he (j.cj g.u n line col y) hb (fun ov cv fk=>KI (ε:=(εE ε0.P g E v v3).wO ov cv) hw (fun i=>he i) (fun i p h=>hb i p h) rfl rfl hg.b hg.nl rfl hg.w hwd (fun t ht=>(hts t ht).elim (fun e=>⟨v,e▸SZ hv fk⟩) (fun e=>⟨v3,e▸Rr h3 fk⟩))) rfl hc;have oeF:∀ {x:AV},tg x=true→flA (φE ε0.P g E v v3 z) x=.bool (ri x E.oe):=fun {x} h=>by
  induction x using AV.casesOn with
  |bool b=>rfl
  |any i=>
   have:AV.any i=.any 27:=fD _ _ h;rw[this];rfl
  |_=>injection h
 have iF:∀ {l:am} {i:Int},l.val (εE ε0.P g E v v3)=i→flA (φE ε0.P g E v v3 z) (.int l)=I i:=fun {l i} h=>by show AV.int (.k (l.val _))=_;rw[h];rfl
 have k0:∀ i,(V i).val (εE ε0.P g E v v3)=(εE ε0.P g E v v3).iv i:=fun i=>bQ _ i;have n1:=oJ hb B.n;rw[np,k0] at n1;replace n1:0≤n.val (εE ε0.P g E v v3)-E.n∧n.val (εE ε0.P g E v v3)-E.n≤2000:=n1;have l0:∃ l,line=.int l∧(0≤l.val (εE ε0.P g E v v3)-E.line∧l.val (εE ε0.P g E v v3)-E.line≤2000):=by
  have h:=B.l;induction line using AV.casesOn with
  |int l=>
   replace h:=oJ hb (show gN βE (.int (l.sub (V 2))) 0 2000=true from h);rw[np,k0] at h;exact⟨l,rfl,h⟩
  |_=>injection h
 apply ah l0;intro l e0 l1;subst e0;apply dh (FK hb B.c);intro cl e0 c1 c2;subst e0;have o1:=(oJ hb B.o).2;rw[jn he (uP hb B.k)] at o1;refine⟨⟨E.T++j.out.val (εE ε0.P g E v v3),n.val (εE ε0.P g E v v3),l.val (εE ε0.P g E v v3),cl.val (εE ε0.P g E v v3),ri j.oe' E.oe,fun i=>flA (φE ε0.P g E v v3 z) (y i)⟩,R.1,R.2.cast ?_ ?_ rfl ?_,⟨rfl,⟨by show E.n≤n.val _;lia,by show n.val _≤E.n+2000;lia⟩,⟨?_,?_⟩,⟨c1,c2⟩,by lia⟩,rfl,?_⟩
 ·refine F6 (af _) (k0 0) ((oeF B.e.1).trans (congrArg AV.bool hoe)) (iF (k0 2)) ?_ (fun i=>?_)
  ·cases q:j.b.br with
   |true=>rw[hbr q];exact iF (bV 0)
   |false=>exact iF (k0 4)
  ·exact Bw E.y (hF g E v v3) i
 ·exact congrArg (fun x=>[AV.cell 5,x]) (T5 j.e)
 ·exact F6 ((fG _ _).trans (congrArg (·++j.out.val (εE ε0.P g E v v3)) (af _))) rfl (oeF B.e.2) (iF rfl) (iF rfl) (fun U=>rfl)
 ·have:=l1.1;have e:(εE ε0.P g E v v3).iv 2=E.line:=rfl;show E.line≤l.val _;lia
 ·have:=l1.2;have e:(εE ε0.P g E v v3).iv 2=E.line:=rfl;show l.val _≤E.line+2000;lia
 ·intro e
  have:=B.z e;injection this with this;show cl.val _=0;rw[this];exact bV 0
end
end
end
section
theorem Mg:(Av.all fun j=>j.chk true)=true:=by kernel_rfl
theorem Lg:((iB ⟨false,false,true,false⟩).all fun j=>j.chk true)=true:=by kernel_rfl
theorem Uj:((iB ⟨false,true,true,false⟩).all fun j=>j.chk true)=true:=by kernel_rfl
theorem Uq:((iB ⟨false,true,true,true⟩).all fun j=>j.chk true)=true:=by kernel_rfl
theorem Rf:((iB ⟨true,false,false,false⟩).all fun j=>j.chk true)=true:=by kernel_rfl
theorem RN:((iB ⟨false,true,false,false⟩).all fun j=>j.chk true)=true:=by kernel_rfl
theorem Tr:((iB ⟨false,false,false,false⟩).all fun j=>j.chk true)=true:=by kernel_rfl
theorem P2:(Av.all fun j=>j.chk false)=true:=by kernel_rfl
theorem Sz:((iB ⟨false,false,true,false⟩).all fun j=>j.chk false)=true:=by kernel_rfl
theorem QF:((iB ⟨false,true,true,false⟩).all fun j=>j.chk false)=true:=by kernel_rfl
theorem Ue:((iB ⟨false,true,true,true⟩).all fun j=>j.chk false)=true:=by kernel_rfl
theorem TL:((iB ⟨true,false,false,false⟩).all fun j=>j.chk false)=true:=by kernel_rfl
theorem Ur:((iB ⟨false,true,false,false⟩).all fun j=>j.chk false)=true:=by kernel_rfl
theorem Kw:((iB ⟨false,false,false,false⟩).all fun j=>j.chk false)=true:=by kernel_rfl
theorem tZ(u:Bool){j:Ej}(hj:j∈Av):j.chk u=true:=by
 cases u
 ·exact aq P2 j hj
 ·exact aq Mg j hj
theorem Ao(u:Bool){k:eK}(hk:k∈k6){j:Ej}(hj:j∈iB k):j.chk u=true:=by
 unfold k6 at hk;simp only [List.mem_cons,List.not_mem_nil,or_false] at hk;rcases hk with rfl|rfl|rfl|rfl|rfl|rfl<;>cases u
 ·exact aq Sz j hj
 ·exact aq Lg j hj
 ·exact aq QF j hj
 ·exact aq Uj j hj
 ·exact aq Ue j hj
 ·exact aq Uq j hj
 ·exact aq TL j hj
 ·exact aq Rf j hj
 ·exact aq Ur j hj
 ·exact aq RN j hj
 ·exact aq Kw j hj
 ·exact aq Tr j hj
end
section
theorem Ob:((oh (bI false)).all fun j=>j.chk true)=true:=by kernel_rfl
theorem MX:((oh (bI true)).all fun j=>j.chk true)=true:=by kernel_rfl
theorem Qp:((oh bF).all fun j=>j.chk true)=true:=by kernel_rfl
theorem Om:((oh (bI false)).all fun j=>j.chk false)=true:=by kernel_rfl
theorem Oh:((oh (bI true)).all fun j=>j.chk false)=true:=by kernel_rfl
theorem O0:((oh bF).all fun j=>j.chk false)=true:=by kernel_rfl
theorem Tw(u:Bool){b:Eb}(hb:b∈[bI false,bI true,bF]){j:Ej}(hj:j∈oh b):j.chk u=true:=by
 simp only [List.mem_cons,List.not_mem_nil,or_false] at hb;rcases hb with rfl|rfl|rfl<;>cases u
 ·exact aq Om j hj
 ·exact aq Ob j hj
 ·exact aq Oh j hj
 ·exact aq MX j hj
 ·exact aq O0 j hj
 ·exact aq Qp j hj
end
section
noncomputable def G0(C:aw)(σ:St):Prop:=ak σ 1=some C∧∃ x,ak σ 5=some (eF x)
noncomputable def k7(Γ:ar)(n:Nat)(C:aw):List AV→St→St→Prop
 |[],σ,σ'=>σ=σ'
 |e::r,σ,σ'=>∃ σ1,(Rz Γ n σ 330 [.cell 5,e] .none σ1∧G0 C σ)∧k7 Γ n C r σ1 σ'
theorem k7.app:∀ {a b:List AV} {σ σ1 σ2:St},k7 Γ n C a σ σ1→k7 Γ n C b σ1 σ2→k7 Γ n C (a++b) σ σ2:=by
 intro L0;induction L0 with
 |nil=>
  intro _ _ _ _ h g;rw[show _=_ from h];exact g
 |cons _ _ ih=>
  intro _ _ _ _ h g;obtain⟨s,h1,h2⟩:=h;exact⟨s,h1,ih h2 g⟩
theorem tE(b:Bool):b∈nS:=by cases b<;>simp [nS]
def aD(g:Gs)(v:List Nat):Bool:=!aF v&&dT g.u v
theorem JO(h:nv (fm v)=true):v.any aC=true:=by
 unfold fm at h;cases q:v.reverse with
 |nil=>rw[q] at h;injection h
 |cons e r=>
  rw[q] at h;cases hb:aC e with
  |false=>dsimp only at h;rw[hb] at h;injection h
  |true=>
   have hm:e∈v:=List.mem_reverse.mp (by rw[q];exact .head _);exact List.any_eq_true.mpr ⟨e,hm,hb⟩
theorem M3(hg:eX g)(h:ez g.best v=true):v.any aC=true:=by
 unfold ez at h;cases v with
 |nil=>injection h
 |cons c r=>
  replace h:nv (dI g.best c++fm (c::r))=true:=h;apply JO;cases q:fm (c::r) with
  |nil=>
   rw[q,af] at h;unfold dI at h;generalize aK c [32,10,133,8232,8233]=m at h;have hb:=hg.b;unfold fN at hb;simp only [List.mem_cons,List.not_mem_nil,or_false] at hb;cases m with
   |false=>exact h
   |true=>rcases hb with e|e|e|e<;>(rw[e] at h;exact absurd h (by decide))
  |cons a t=>
   rw[q] at h;unfold nv at h ⊢;rw[List.reverse_append] at h;have hne:(a::t).reverse≠[]:=by simp
   cases q2:(a::t).reverse with
   |nil=>exact absurd q2 hne
   |cons d s=>rw[q2] at h;exact h
theorem ol(hg:eX g)(v:List Nat):ce g v∈k6:=by
 unfold ce;cases v with
 |nil=>simp [k6,aF,List.any]
 |cons c r=>
  have hp:=M3 hg (v:=c::r);generalize hs:dT g.u (c::r)=s;show (⟨false,(c::r).any aC,true&&s,(true&&s)&&ez g.best (c::r)⟩ : eK)∈k6;cases hq:ez g.best (c::r) with
  |true=>rw[hp hq];cases s<;>simp [k6]
  |false=>cases (c::r).any aC<;>cases s<;>simp [k6]
end
section
section
def dJ(g:Gs)(ind:Int)(v:List Nat):List Nat:=Bool.rec (32::34::((bB g.u v []).1++[34])) (cR g.best g.nl ind v).1 (aD g v)
def cW(g:Gs)(br:Bool):List Nat:=Bool.rec g.nl [] br
noncomputable def dL(n:Int):List Nat:=List.replicate n.toNat 32
def dW(v:List Nat):Bool:=!aF v&&!v.any aC
def ek(g:Gs)(p:Nat)(v:List Nat):List Nat:=match p with
 |0=>45::dJ g g.best v
 |1=>45::(dL (g.best-1)++(107::58::dJ g (2*g.best) v))
 |2=>45::(dL (g.best-1)++(45::dJ g (2*g.best) v))
 |_=>Bool.rec (45::(dL (g.best-1)++(63::(dJ g (2*g.best) v++(cW g (aD g v)++(dL g.best++(58::dJ g (2*g.best) v)))))))
  (45::(dL (g.best-1)++(34::(((bB g.u v []).1++[34])++(58::dJ g (2*g.best) v))))) (dW v)
noncomputable def lV(p:Nat):List Ec:=match p with|0=>[]|1=>[.M,.k,.t2]|2=>[.Q,.t2]|_=>[.M,.t2,.t2]
noncomputable def pe(p:Nat):Ec:=match p with|0=>.t2|2=>.xE 241|_=>.xE 265
def UJ(p:Nat)(b:Eb)(k:eK):Ej:=match p with|1=>w7 b k|2=>vC b k|_=>wx b k
section
variable {ε:Ev}{g:Gs}{v v3:List Nat}{E:Es}{P:Params}
theorem cN(a:SS)(r:List SS):(eE (a::r)).val ε=a.val ε++(eE r).val ε:=fG a (eE r)
theorem mX(br:Bool):(gl br).val (εE P g E v v3)=cW g br:=by
 cases br
 ·exact af _
 ·rfl
theorem y5:(kb (cV (ce g v))).val (εE P g E v v3)=dJ g g.best v:=by
 show SS.val _ (Bool.rec (motive:=fun U=>SS) [.lit [32,34],.var 12] [.var 10] (aD g v))=_;unfold dJ;cases aD g v
 ·show 32::34::(((bB g.u v []).1++[34])++[])=_;rw[af]
 ·show (cR g.best g.nl g.best v).1++[]=_;rw[af]
theorem Le:(kb (gX (ce g v3))).val (εE P g E v v3)=dJ g g.best v3:=by
 show SS.val _ (Bool.rec (motive:=fun U=>SS) [.lit [32,34],.var 14] [.var 13] (aD g v3))=_;unfold dJ;cases aD g v3
 ·show 32::34::(((bB g.u v3 []).1++[34])++[])=_;rw[af]
 ·show (cR g.best g.nl g.best v3).1++[]=_;rw[af]
theorem vV:(jX (cV (ce g v))).val (εE P g E v v3)=dJ g (2*g.best) v:=by
 show SS.val _ (Bool.rec (motive:=fun U=>SS) [.lit [32,34],.var 12] [.var 11] (aD g v))=_;unfold dJ;cases aD g v
 ·show 32::34::(((bB g.u v []).1++[34])++[])=_;rw[af]
 ·show (cR g.best g.nl (2*g.best) v).1++[]=_;rw[af]
theorem wt:lf.val (εE P g E v v3)=dL (g.best-1):=by
 show List.replicate ((-1:Int)+(1*(g.best:Int)+0)).toNat 32++[]=_;rw[af,show (-1:Int)+(1*(g.best:Int)+0)=g.best-1 by lia];rfl
theorem Rj:SS.val (εE P g E v v3) [.rep 32 ⟨0,[(8,1)]⟩]=dL g.best:=by
 show List.replicate ((0:Int)+(1*(g.best:Int)+0)).toNat 32++[]=_;rw[af,show (0:Int)+(1*(g.best:Int)+0)=g.best by lia];rfl
theorem mq:(eE []).val ε=[]:=rfl
theorem iT(l:List Nat):SS.val ε [.lit l]=l:=af l
theorem Kz(br:Bool):(yr br (ce g v)).out.val (εE P g E v v3)=cW g br++ek g 0 v:=by
 show (eE [gl br,[.lit [45]],kb (cV (ce g v))]).val _=_;rw[cN,cN,cN,mq,mX,iT,y5,af];rfl
theorem Ka(p:Nat)(hp:p≠0)(b:Eb):(UJ p b (ce g v)).out.val (εE P g E v v3)=cW g b.br++ek g p v:=by
 match p,hp with
 |1,_=>
  show (eE [gl b.br,[.lit [45]],lf,[.lit [107,58]],jX (cV (ce g v))]).val _=_;rw[cN,cN,cN,cN,cN,mq,mX,iT,iT,wt,vV,af];rfl
 |2,_=>
  show (eE [gl b.br,[.lit [45]],lf,[.lit [45]],jX (cV (ce g v))]).val _=_;rw[cN,cN,cN,cN,cN,mq,mX,iT,wt,vV,af];rfl
 |p+3,_=>
  show SS.val _ (Bool.rec (motive:=fun U=>SS) (eE [gl b.br,[.lit [45]],lf,[.lit [63]],jX (cV (ce g v)),gl (aD g v),[.rep 32 ⟨0,[(8,1)]⟩],[.lit [58]],jX (cV (ce g v))]) (eE [gl b.br,[.lit [45]],lf,[.lit [34]],[.var 12],[.lit [58]],jX (cV (ce g v))]) (dW v))=cW g b.br++Bool.rec (motive:=fun U=>List Nat) _ _ (dW v);cases dW v
  ·dsimp only
   rw[cN,cN,cN,cN,cN,cN,cN,cN,cN,mq,mX,mX,iT,iT,iT,wt,Rj,vV,af];rfl
  ·dsimp only
   rw[cN,cN,cN,cN,cN,cN,cN,mq,mX,iT,iT,iT,wt,vV,af];show cW g b.br++([45]++(dL (g.best-1)++([34]++((((bB g.u v []).1++[34])++[])++([58]++dJ g (2*g.best) v)))))=_;rw[af];rfl
theorem AE:(uk (ce g v3)).val (εE P g E v v3)=g.nl++ek g 0 v3:=by
 show (eE [[.var 5],[.lit [45]],kb (gX (ce g v3))]).val _=_;rw[cN,cN,cN,mq,iT,Le,af];show (g.nl++[])++_=_;rw[af];rfl
theorem Ui:(yh (ce g v3) (ce g v)).out.val (εE P g E v v3)=g.nl++(ek g 0 v3++(cW g (aD g v3)++ek g 0 v)):=by
 show (eE [uk (ce g v3),gl (aD g v3),[.lit [45]],kb (cV (ce g v))]).val _=_;rw[cN,cN,cN,cN,mq,AE,mX,iT,y5,af,aX];rfl
end
end
end
section
section
structure jF (E E':Es) (k:Int) (o:List Nat) (oe br:Bool):Prop where
 t:E'.T=E.T++o
 n:E.n≤E'.n∧E'.n≤E.n+2000*k
 l:E.line≤E'.line∧E'.line≤E.line+2000*k
 c:0≤E'.col∧E'.col≤500
 e:E'.oe=oe
 z:br=true→E'.col=0
structure cJ (E:Es) (k:Int) (br:Bool):Prop where
 t:E.T.length≤30000
 n:0≤E.n∧E.n+2000*k≤80000
 l:0≤E.line∧E.line+2000*k≤80000
 c:0≤E.col∧E.col≤500
 z:br=true→E.col=0
theorem cJ.ok(h:cJ E k br)(hk:0≤k):zo E:=⟨h.t,⟨h.n.1,by have:=h.n.2;lia⟩,⟨h.l.1,by have:=h.l.2;lia⟩,h.c⟩
theorem cJ.mono{E:Es}{k k':Int}{br:Bool}(h:cJ E k br)(hk:k'≤k):cJ E k' br:=⟨h.t,⟨h.n.1,by have:=h.n.2;lia⟩,⟨h.l.1,by have:=h.l.2;lia⟩,h.c,h.z⟩
theorem jF.room{E E':Es}(h:jF E E' k o oe br)(r:cJ E (k+j) br0)(ht:E'.T.length≤30000):cJ E' j br :=
 ⟨ht,⟨by have:=h.n.1;have:=r.n.1;lia,by have:=h.n.2;have:=r.n.2;lia⟩,⟨by have:=h.l.1;have:=r.l.1;lia,by have:=h.l.2;have:=r.l.2;lia⟩,h.c,h.z⟩
theorem jF.trans{E E1 E2:Es}{k j:Int}{o o2:List Nat}{oe oe2 br br2:Bool}(h:jF E E1 k o oe br)(h2:jF E1 E2 j o2 oe2 br2):jF E E2 (k+j) (o++o2) oe2 br2 :=
 ⟨by rw[h2.t,h.t,aX],⟨by have:=h.n.1;have:=h2.n.1;lia,by have:=h.n.2;have:=h2.n.2;lia⟩,⟨by have:=h.l.1;have:=h2.l.1;lia,by have:=h.l.2;have:=h2.l.2;lia⟩,h2.c,h2.e,h2.z⟩
section
variable {w:World}{mg mb:Str→Option Value}{ε0:Ev}{g:Gs}{v v3:List Nat}{z:Nat→aw}
noncomputable def Rw(Γ:ar)(g:Gs)(z:Nat→aw)(es:List AV)(b:Eb)(q:List AV)(E:Es)(b':Eb)(q':List AV)(k:Int)(o:List Nat)(oe:Bool):Prop :=
 ∃ E',k7 Γ 295 (z 1) es (j0 g z b q E) (j0 g z b' q' E')∧jF E E' k o oe b'.br
theorem Rw.trans{b b1 b2:Eb}(h:Rw Γ g z es b q E b1 q1 k o oe)(h2:∀ E1,jF E E1 k o oe b1.br→Rw Γ g z es2 b1 q1 E1 b2 q2 j o2 oe2):Rw Γ g z (es++es2) b q E b2 q2 (k+j) (o++o2) oe2:=by
 apply ah h;intro E1 m1 g1;apply ah (h2 E1 g1);intro E2 m2 g2;exact⟨E2,m1.app m2,g1.trans g2⟩
variable (hw:ε0.P=w.params)(hg:eX g)(hv:gF v)(h3:gF v3)
include hw hg hv h3
theorem gi{E:Es}{k:Int}(j:Ej)(hj:j.chk g.u=true)(hts:sZ g v v3 j.ts)(hwd:j.wide=true→g.bw=1000)(hoe:ri j.oe E.oe=E.oe)(hr:cJ E k j.b.br)(hk:0≤k) :
  Rw (ab w mg mb ε0) g z [cu v v3 j.e] j.b (j.q.map (cu v v3)) E j.b' (j.q'.map (cu v v3)) 1 (j.out.val (εE ε0.P g E v v3)) (ri j.oe' E.oe):=by
 apply yY (M7 hw hg (hr.ok hk) hv h3 j hj hts hwd hoe hr.z);intro E' _ R N e c;exact⟨E',⟨_,⟨R,rfl,_,rfl⟩,rfl⟩,N.t,⟨N.n.1,by have:=N.n.2;lia⟩,⟨N.l.1,by have:=N.l.2;lia⟩,N.c,e,c⟩
noncomputable def qP(u:Bool)(b:Eb):List Ec→List Ec→Prop
 |_,[]=>True
 |q,e::r=>(jx b q e).chk u=true∧qP u b (q++[e]) r
theorem um{b:Eb}:∀ (r q:List Ec) {E:Es} {k:Int},qP g.u b q r→cJ E (r.length+k) b.br→0≤k →
  Rw (ab w mg mb ε0) g z (r.map (cu v v3)) b (q.map (cu v v3)) E b ((q++r).map (cu v v3)) r.length [] E.oe:=by
 intro L0;induction L0 with
 |nil=>
  intro q E k _ hr _;rw[af];exact⟨E,rfl,(af _).symm,⟨bz _,by show E.n≤E.n+2000*((0:Nat):Int);lia⟩,⟨bz _,by show E.line≤E.line+2000*((0:Nat):Int);lia⟩,hr.c,rfl,hr.z⟩
 |cons e r ih=>
  intro q E k h hr hk;rw[bb] at hr ⊢;push_cast at hr ⊢;have R:=gi (mg:=mg) (mb:=mb) (z:=z) hw hg hv h3 (E:=E) (k:=r.length+1+k) (jx b q e) h.1 (fun t ht=>nomatch ht) (fun h=>by injection h) rfl hr (by lia);have F:=R.trans (es2:=r.map (cu v v3)) (b2:=b) (q2:=((q++[e])++r).map (cu v v3)) (j:=r.length) (o2:=[]) (oe2:=E.oe) fun E1 G=>by
   have t:E1.T=E.T:=G.t.trans (af _);have:=ih (q++[e]) h.2 (G.room (j:=r.length+k) (hr.mono (by lia)) (by rw[t];exact hr.t)) hk;rw[show E1.oe=E.oe from G.e] at this;exact this
  rw[aX] at F;rw[show (r.length:Int)+1=1+r.length by lia];exact F
end
end
end
section
section
inductive iL where
 |R0
 |RP (v:List Nat)
 |IT (br:Bool)
noncomputable def iL.b(s:iL):Eb:=match s with|.IT br=>bI br|_=>bR
def iL.q(s:iL):List AV:=match s with|.R0=>[dE]|.RP v=>[dE,dq (.str (.k v))]|.IT _=>[]
def iL.owed(g:Gs)(s:iL):List Nat:=match s with|.R0=>g.nl|.RP v=>g.nl++(ek g 0 v++cW g (aD g v))|.IT br=>cW g br
def dU(p:Nat)(v:List Nat):List AV:=(lV p++[pe p]).map (cu v v)
structure e9 (g:Gs) (v:List Nat):Prop where
 t:gF v
 w:aD g v=false→g.bw=1000
def cO(g:Gs)(v:List Nat):Bool:=aD g v&&ez g.best v
section
variable {w:World}{mg mb:Str→Option Value}{ε0:Ev}{g:Gs}{v v3:List Nat}{z:Nat→aw}
theorem t9(hg:eX g)(hv:gF v)(hi:2≤ind∧ind≤40):(dJ g ind v).length≤4300:=by
 have h:=(so hg hv hi).1;have q:=(vU hv g.u).1;unfold dJ;cases aD g v
 ·show (32::34::((bB g.u v []).1++[34])).length≤4300;rw[bb,bb];lia
 ·show ((cR g.best g.nl ind v).1).length≤4300;lia
theorem Hy(hg:eX g)(hv:gF v)(p:Nat):(ek g p v).length≤8650:=by
 have b:=je hg;have h1:=t9 hg hv (ind:=g.best) ⟨b.1,by lia⟩;have h2:=t9 hg hv (ind:=2*g.best) ⟨by lia,by lia⟩;have q:=(vU hv g.u).1;have n:=hg.nl.2;have e1:(dL (g.best-1)).length≤8:=by unfold dL;rw[List.length_replicate];lia
 have e2:(dL (g.best:Int)).length≤9:=by unfold dL;rw[List.length_replicate];lia
 have e3:(cW g (aD g v)).length≤2:=by unfold cW;cases aD g v;exact n;exact Nat.zero_le _
 unfold ek
 split
 ·rw[bb];lia
 ·rw[bb,ax,bb,bb];lia
 ·rw[bb,ax,bb];lia
 ·cases dW v
  ·dsimp only
   rw[bb,ax,bb,ax,ax,ax,bb];lia
  ·dsimp only
   rw[bb,ax,bb,ax,bb];lia
theorem sS(h:e9 g v):jK [cV (ce g v)]=true→g.bw=1000:=fun e=>h.w (by
 replace e:(!aD g v ||false)=true:=e;rw[Bool.or_false] at e;exact Bool.not_eq_true' _▸e)
theorem Jd(h:e9 g v3):jK [gX (ce g v3)]=true→g.bw=1000:=fun e=>h.w (by
 replace e:(!aD g v3 ||false)=true:=e;rw[Bool.or_false] at e;exact Bool.not_eq_true' _▸e)
theorem Mw(h3:e9 g v3)(h:e9 g v):jK [gX (ce g v3),cV (ce g v)]=true→g.bw=1000:=fun e=>by
 replace e:(!aD g v3 ||(!aD g v ||false))=true:=e;cases q:aD g v3 with
 |false=>exact h3.w q
 |true=>
  rw[q,Bool.or_false] at e;exact h.w (Bool.not_eq_true' _▸e)
theorem sT:sZ g v v3 [cV (ce g v)]:=fun U ht=>.inl (cH ht)
theorem Ha:sZ g v v3 [gX (ce g v3)]:=fun U ht=>.inr (cH ht)
theorem Q5:sZ g v v3 [gX (ce g v3),cV (ce g v)]:=fun t ht=>by
 rcases bU ht with e|ht
 ·exact .inr e
 ·exact .inl (cH ht)
theorem sO(hx:x∈ti):(jx x.1 x.2.1 x.2.2).chk g.u=true :=
 tZ g.u (cS _ (cS _ (cS _ (cS _ (List.mem_map.mpr ⟨x,hx,rfl⟩)))))
theorem LC(hx:x∈[(bI br,([]:List Ec),Ec.M),(bI br,[.M],.k),(bI br,[.M],.t2),(bI br,[],.Q),(bI br,[.Q],.t2),(bI br,[.M,.k],.t2),(bI br,[.M,.t2],.t2)]):x∈ti :=
 bq _ (cS _ (List.mem_flatMap.mpr ⟨bI br,by cases br;exact .head _;exact .tail _ (.head _),hx⟩))
variable (hw:ε0.P=w.params)(hg:eX g)(hv:e9 g v)
include hw hg hv
theorem yX(hp:p≠0)(hb:b∈[bI false,bI true,bF])(hr:cJ E 1 b.br) :
  Rw (ab w mg mb ε0) g z [cu v v (pe p)] b ((lV p).map (cu v v)) E (bI (aD g v)) [] 1 (cW g b.br++ek g p v) (cO g v):=by
 have m:∀ j,j∈[w7 b (ce g v),vC b (ce g v),wx b (ce g v)]→j.chk g.u=true:=fun j hj=>Tw g.u hb (List.mem_flatMap.mpr ⟨_,ol hg v,hj⟩);have e:=Ka (P:=ε0.P) (g:=g) (E:=E) (v:=v) (v3:=v) p hp b;have o:(aD g v&&(aD g v&&ez g.best v))=cO g v:=by unfold cO;cases aD g v<;>rfl
 rw[←e,←o]
 match p,hp with
 |1,_=>exact gi hw hg hv.t hv.t (w7 b (ce g v)) (m _ (.head _)) sT (sS hv) rfl hr (by decide)
 |2,_=>exact gi hw hg hv.t hv.t (vC b (ce g v)) (m _ (.tail _ (.head _))) sT (sS hv) rfl hr (by decide)
 |p+3,_=>exact gi hw hg hv.t hv.t (wx b (ce g v)) (m _ (.tail _ (.tail _ (.head _)))) sT (sS hv) rfl hr (by decide)
theorem Eu(p:Nat)(br:Bool):qP g.u (bI br) [] (lV p):=by
 have a:∀ x,x∈[(bI br,([]:List Ec),Ec.M),(bI br,[.M],.k),(bI br,[.M],.t2),(bI br,[],.Q),(bI br,[.Q],.t2),(bI br,[.M,.k],.t2),(bI br,[.M,.t2],.t2)]→(jx x.1 x.2.1 x.2.2).chk g.u=true:=fun x hx=>sO (LC hx)
 match p with
 |0=>exact trivial
 |1=>exact⟨a _ (.head _),a _ (.tail _ (.head _)),a _ (.tail _ (.tail _ (.tail _ (.tail _ (.tail _ (.head _)))))),trivial⟩
 |2=>exact⟨a _ (.tail _ (.tail _ (.tail _ (.head _)))),a _ (.tail _ (.tail _ (.tail _ (.tail _ (.head _))))),trivial⟩
 |p+3=>exact⟨a _ (.head _),a _ (.tail _ (.tail _ (.head _))),a _ (.tail _ (.tail _ (.tail _ (.tail _ (.tail _ (.tail _ (.head _))))))),trivial⟩
theorem PH(p:Nat)(br:Bool)(hr:cJ E 4 br) :
  Rw (ab w mg mb ε0) g z (dU p v) (bI br) [] E (bI (aD g v)) [] 4 (cW g br++ek g p v) (cO g v):=by
 have up:∀ {k:Int} {es:List AV} {o:List Nat} {oe:Bool},k≤4→Rw (ab w mg mb ε0) g z es (bI br) [] E (bI (aD g v)) [] k o oe→Rw (ab w mg mb ε0) g z es (bI br) [] E (bI (aD g v)) [] 4 o oe:=fun hk ⟨E',m,G⟩=>⟨E',m,G.t,⟨G.n.1,by have:=G.n.2;lia⟩,⟨G.l.1,by have:=G.l.2;lia⟩,G.c,G.e,G.z⟩
 by_cases hp:p=0
 ·subst hp
  have e:=Kz (P:=ε0.P) (g:=g) (E:=E) (v:=v) (v3:=v) br;have o:(aD g v&&(aD g v&&ez g.best v))=cO g v:=by unfold cO;cases aD g v<;>rfl
  rw[←e,←o];exact up (by decide) (gi hw hg hv.t hv.t (yr br (ce g v)) (tZ g.u (bq _ (List.mem_flatMap.mpr ⟨br,tE br,List.mem_map.mpr ⟨_,ol hg v,rfl⟩⟩))) sT (sS hv) rfl hr (by decide))
 ·have l3:((lV p).length:Int)≤3:=by unfold lV;split<;>(simp only [bb,List.length_nil];decide)
  have R:=um (mg:=mg) (mb:=mb) (z:=z) hw hg hv.t hv.t (b:=bI br) (lV p) [] (E:=E) (k:=1) (Eu hw hg hv p br) (hr.mono (by lia)) (by decide);have F:=R.trans (es2:=[cu v v (pe p)]) (b2:=bI (aD g v)) (q2:=[]) (j:=1) (o2:=cW g br++ek g p v) (oe2:=cO g v) fun E1 G=>
   yX hw hg hv hp (b:=bI br) (by cases br<;>simp) (G.room (j:=1) (hr.mono (by lia)) (by rw[G.t,af];exact hr.t))
  unfold dU;rw[List.map_append];exact up (by lia) F
end
end
end
section
section
section
variable {w:World}{mg mb:Str→Option Value}{ε0:Ev}{g:Gs}{v v3:List Nat}{z:Nat→aw}
theorem Rw.up(hk:k≤k')(h:Rw Γ g z es b q E b' q' k o oe):Rw Γ g z es b q E b' q' k' o oe:=by
 apply ah h;intro E' m G;exact⟨E',m,G.t,⟨G.n.1,by have:=G.n.2;lia⟩,⟨G.l.1,by have:=G.l.2;lia⟩,G.c,G.e,G.z⟩
theorem jF.keep(h:jF E E' k [] oe br)(r:cJ E (k+j) br0):cJ E' j br:=h.room r (by rw[h.t,af];exact r.t)
theorem zR(hx:x∈[(b1,([]:List Ec),Ec.D),(bD,[],.D),(bR,[.Q],.t2),(bR,[.Q],.M),(bR,[.Q],.Q)]):x∈ti:=bq _ (bq _ hx)
theorem RO(hx:x∈[(bF,[Ec.M,.k],Ec.t2),(bF,[.M,.t2],.t2)]):x∈ti:=cS _ hx
theorem zB(u:Bool)(hj:j∈[xF,wl,nj .M .k,nj .M .t2,nj .Q .t2]):j.chk u=true:=tZ u (cS _ (bq _ hj))
noncomputable def sndC(p:Nat):Ec:=match p with|1=>.k|_=>.t2
noncomputable def eu(p:Nat):Ec:=match p with|2=>.Q|_=>.M
noncomputable def fP(p:Nat):List Ec:=match p with|2=>[]|_=>[.t2]
theorem oF(hp:p≠0):lV p=eu p::sndC p::fP p:=by
 match p,hp with
 |1,_=>rfl
 |2,_=>rfl
 |p+3,_=>rfl
theorem Sk(hp:p≠0):qP g.u bR [.Q] [eu p]:=by
 have a:∀ x,x∈[(b1,([]:List Ec),Ec.D),(bD,[],.D),(bR,[.Q],.t2),(bR,[.Q],.M),(bR,[.Q],.Q)]→(jx x.1 x.2.1 x.2.2).chk g.u=true:=fun x hx=>sO (zR hx)
 match p,hp with
 |1,_=>exact⟨a (bR,[.Q],.M) (by simp),trivial⟩
 |2,_=>exact⟨a (bR,[.Q],.Q) (by simp),trivial⟩
 |p+3,_=>exact⟨a (bR,[.Q],.M) (by simp),trivial⟩
theorem QB(hp:p≠0):(nj (eu p) (sndC p)).chk g.u=true:=zB g.u (by
 match p,hp with
 |1,_=>exact .tail _ (.tail _ (.head _))
 |2,_=>exact .tail _ (.tail _ (.tail _ (.tail _ (.head _))))
 |p+3,_=>exact .tail _ (.tail _ (.tail _ (.head _))))
theorem R9(hp:p≠0):qP g.u bF [eu p,sndC p] (fP p):=by
 have a:∀ x,x∈[(bF,[Ec.M,.k],Ec.t2),(bF,[.M,.t2],.t2)]→(jx x.1 x.2.1 x.2.2).chk g.u=true:=fun x hx=>sO (RO hx)
 match p,hp with
 |1,_=>exact⟨a (bF,[.M,.k],.t2) (.head _),trivial⟩
 |2,_=>exact trivial
 |p+3,_=>exact⟨a (bF,[.M,.t2],.t2) (.tail _ (.head _)),trivial⟩
variable (hw:ε0.P=w.params)(hg:eX g)(hv:e9 g v)(h3:e9 g v3)
include hw hg hv
theorem Sh(hr:cJ E 1 false):Rw (ab w mg mb ε0) g z (dU 0 v) bR [dE] E bR [dE,dq (.str (.k v))] 1 [] E.oe :=
 um (k:=0) hw hg hv.t hv.t (b:=bR) [.t2] [.Q] ⟨sO (x:=(bR,[.Q],.t2)) (zR (by simp)),trivial⟩ hr (by decide)
theorem Ln(hp:p≠0)(hr:cJ E 4 false):Rw (ab w mg mb ε0) g z (dU p v) bR [dE] E (bI (aD g v)) [] 4 (g.nl++ek g p v) (cO g v):=by
 have a1:=Sk (g:=g) hp;have a2:=QB (g:=g) hp;have a3:=R9 (g:=g) hp;have l1:((fP p).length:Int)≤1:=by unfold fP;split<;>(simp only [bb,List.length_nil];decide)
 have R1:Rw (ab w mg mb ε0) g z [cu v v (eu p)] bR [dE] E bR [dE,cu v v (eu p)] 1 [] E.oe:=um (mg:=mg) (mb:=mb) (z:=z) (k:=3) hw hg hv.t hv.t (b:=bR) [eu p] [.Q] (E:=E) a1 hr (by decide);have F:=R1.trans (es2:=[cu v v (sndC p)]++((fP p).map (cu v v)++[cu v v (pe p)])) (b2:=bI (aD g v)) (q2:=[]) (j:=1+(((fP p).length:Int)+1)) (o2:=[]++([]++(g.nl++ek g p v))) (oe2:=cO g v) fun E1 G1=>by
  have r1:cJ E1 3 false:=G1.keep (j:=3) hr;have R2:Rw (ab w mg mb ε0) g z [cu v v (sndC p)] bR [dE,cu v v (eu p)] E1 bF [cu v v (eu p),cu v v (sndC p)] 1 [] E1.oe:=gi (mg:=mg) (mb:=mb) (z:=z) (k:=3) hw hg hv.t hv.t (nj (eu p) (sndC p)) a2 (fun t ht=>nomatch ht) (fun h=>by injection h) rfl r1 (by decide);refine R2.trans fun E2 G2=>?_;have r2:cJ E2 2 false:=G2.keep (j:=2) r1;have R3:Rw (ab w mg mb ε0) g z ((fP p).map (cu v v)) bF [cu v v (eu p),cu v v (sndC p)] E2 bF (([eu p,sndC p]++fP p).map (cu v v)) ((fP p).length:Int) [] E2.oe:=um (mg:=mg) (mb:=mb) (z:=z) (k:=1) hw hg hv.t hv.t (b:=bF) (fP p) [eu p,sndC p] a3 (r2.mono (by lia)) (by decide);refine R3.trans fun E3 G3=>?_;have:=yX (mg:=mg) (mb:=mb) (z:=z) hw hg hv hp (b:=bF) (by simp) (E:=E3) (G3.keep (j:=1) (r2.mono (by lia)));rw[oF hp] at this;exact this
 have F4:=F.up (k':=4) (by lia);have ee:dU p v=[cu v v (eu p)]++([cu v v (sndC p)]++((fP p).map (cu v v)++[cu v v (pe p)])):=by unfold dU;rw[oF hp,List.map_append];rfl
 rw[ee];exact F4
include h3
theorem Kc(hr:cJ E 1 false):Rw (ab w mg mb ε0) g z (dU 0 v) bR [dE,dq (.str (.k v3))] E (bI (aD g v)) [] 1 (g.nl++(ek g 0 v3++(cW g (aD g v3)++ek g 0 v))) (cO g v):=by
 have o:(aD g v&&(aD g v&&ez g.best v))=cO g v:=by unfold cO;cases aD g v<;>rfl
 rw[←Ui (P:=ε0.P),←o];exact gi hw hg hv.t h3.t (yh (ce g v3) (ce g v)) (Ao g.u (ol hg v3) (bq _ (List.mem_map.mpr ⟨_,ol hg v,rfl⟩))) Q5 (Mw h3 hv) rfl hr (by decide)
theorem Td(hp:p≠0)(hr:cJ E 4 false)(ht:E.T.length≤20000):Rw (ab w mg mb ε0) g z (dU p v) bR [dE,dq (.str (.k v3))] E (bI (aD g v)) [] 4 ((g.nl++ek g 0 v3)++(cW g (aD g v3)++ek g p v)) (cO g v):=by
 have o3:(aD g v3&&(aD g v3&&ez g.best v3))=cO g v3:=by unfold cO;cases aD g v3<;>rfl
 have a1:(ux (ce g v3) (eu p)).chk g.u=true:=Ao g.u (ol hg v3) (cS _ (by
  match p,hp with
  |1,_=>exact .head _
  |2,_=>exact .tail _ (.head _)
  |p+3,_=>exact .head _))
 have a2:qP g.u (bI (aD g v3)) [eu p] (sndC p::fP p):=by
  have h:=Eu hw hg hv p (aD g v3);rw[oF hp] at h;exact h.2
 have l1:((fP p).length:Int)≤1:=by unfold fP;split<;>(simp only [bb,List.length_nil];decide)
 have R1:Rw (ab w mg mb ε0) g z [cu v v3 (eu p)] bR [dE,dq (.str (.k v3))] E (bI (aD g v3)) [cu v v3 (eu p)] 1 (g.nl++ek g 0 v3) (cO g v3):=by
  rw[←AE (P:=ε0.P),←o3];exact gi (k:=4) hw hg hv.t h3.t (ux (ce g v3) (eu p)) a1 Ha (Jd h3) rfl hr (by decide)
 have eh:∀ e∈lV p,cu v v3 e=cu v v e:=fun e he=>by
  unfold lV at he
  split at he<;>simp only [List.mem_cons,List.not_mem_nil,or_false] at he<;>rcases he with rfl|rfl|rfl<;>rfl
 have l2:(((sndC p::fP p).length:Nat):Int)≤2:=by rw[bb];push_cast;lia
 have F:=R1.trans (es2:=(sndC p::fP p).map (cu v v)++[cu v v (pe p)]) (b2:=bI (aD g v)) (q2:=[]) (j:=((sndC p::fP p).length+1:Int)) (o2:=[]++(cW g (aD g v3)++ek g p v)) (oe2:=cO g v) fun E1 G1=>by
  have t1:E1.T.length≤30000:=by
   have:=Hy hg h3.t 0;have:=hg.nl.2;rw[G1.t,ax,ax];lia
  have r1:cJ E1 3 (aD g v3):=G1.room (j:=3) hr t1;rw[eh (eu p) (by rw[oF hp];exact .head _)];exact(um (mg:=mg) (mb:=mb) (z:=z) (k:=1) hw hg hv.t hv.t (b:=bI (aD g v3)) (sndC p::fP p) [eu p] a2 (r1.mono (by lia)) (by decide)).trans fun E2 G2=>by
   have:=yX (mg:=mg) (mb:=mb) (z:=z) hw hg hv hp (b:=bI (aD g v3)) (by cases aD g v3<;>simp) (E:=E2) (G2.keep (j:=1) (r1.mono (by lia)));rw[oF hp] at this;exact this
 rw[eh (eu p) (by rw[oF hp];exact .head _)] at F;have F4:=F.up (k':=4) (by lia);have ee:dU p v=[cu v v (eu p)]++((sndC p::fP p).map (cu v v)++[cu v v (pe p)]):=by unfold dU;rw[oF hp,List.map_append];rfl
 rw[ee];exact F4
end
end
end
section
section
def eR(g:Gs)(x:Bool):List Nat:=Bool.rec [] ([46,46,46]++g.nl) x
section
variable {w:World}{mg mb:Str→Option Value}{ε0:Ev}{g:Gs}{v v3:List Nat}{z:Nat→aw}{P:Params}{E:Es}
theorem gY:gF []:=⟨nofun,Nat.zero_le _⟩
theorem Fu(x:Bool):SS.val (εE P g E v v3) (Bool.rec [] vx x)=eR g x:=by
 cases x
 ·rfl
 ·show [46,46,46]++(g.nl++[])=_;rw[af];rfl
theorem QL(br shut:Bool):(tJ br shut).out.val (εE P g E v v3)=cW g br++eR g shut:=by
 show (eE [gl br,Bool.rec [] vx shut]).val _=_;rw[cN,cN,mq,mX,Fu,af]
theorem Q8(b:Eb):(uW b (ce g v)).out.val (εE P g E v v3)=[45,45,45]++dJ g g.best v:=by
 show (eE [[.lit [45,45,45]],kb (cV (ce g v))]).val _=_;rw[cN,cN,mq,iT,y5,af]
theorem Bu(u:Bool)(hj:j∈nS.flatMap fun b=>wJ b::w5 b::nS.map fun s=>tJ b s):j.chk u=true:=tZ u (cS _ (cS _ (bq _ hj)))
theorem Pk(u br:Bool):(wJ br).chk u=true:=Bu u (List.mem_flatMap.mpr ⟨br,tE br,.head _⟩)
theorem T9(u oe:Bool):(w5 oe).chk u=true:=Bu u (List.mem_flatMap.mpr ⟨oe,tE oe,.tail _ (.head _)⟩)
theorem KN(u br shut:Bool):(tJ br shut).chk u=true:=Bu u (List.mem_flatMap.mpr ⟨br,tE br,.tail _ (.tail _ (List.mem_map.mpr ⟨shut,tE shut,rfl⟩))⟩)
theorem PI(hb:b∈[b1,bD])(hg:eX g):(uW b (ce g v)).chk g.u=true:=tZ g.u (cS _ (cS _ (cS _ (bq _ (List.mem_flatMap.mpr ⟨b,hb,List.mem_map.mpr ⟨_,ol hg v,rfl⟩⟩)))))
theorem SH(u:Bool):xF.chk u=true:=zB u (.head _)
theorem Qu(u:Bool):wl.chk u=true:=zB u (.tail _ (.head _))
theorem ET(hb:b∈[b1,bD])(u:Bool):(jx b [] .D).chk u=true:=by
 have a:∀ g:Gs,(jx b [] .D).chk g.u=true:=fun g=>sO (x:=(b,[],.D)) (zR (by
  rcases bU hb with rfl|hb
  ·exact .head _
  ·rw[cH hb];exact .tail _ (.head _)))
 exact a ⟨u,0,[],0⟩
variable (hw:ε0.P=w.params)(hg:eX g)
include hw hg
theorem GI(hr:cJ E 1 true)(ho:E.oe=false):Rw (ab w mg mb ε0) g z [fM] b0 [] E b1 [] 1 [] false :=
 gi (k:=1) hw hg gY gY xF (SH g.u) (fun U ht=>nomatch ht) (fun h=>by injection h) ho.symm hr (by decide)
theorem Uu(hr:cJ E 2 true):Rw (ab w mg mb ε0) g z [eH,dE] b1 [] E bR [dE] 2 [45,45,45] false:=by
 have R1:Rw (ab w mg mb ε0) g z [eH] b1 [] E b1 [eH] 1 [] E.oe:=gi (k:=2) hw hg gY gY (jx b1 [] .D) (ET (.head _) g.u) (fun U ht=>nomatch ht) (fun h=>by injection h) rfl hr (by decide);exact R1.trans (es2:=[dE]) (j:=1) (o2:=[45,45,45]) fun E1 G1=>
  gi (k:=1) hw hg gY gY wl (Qu g.u) (fun U ht=>nomatch ht) (fun h=>by injection h) rfl (G1.keep (j:=1) hr) (by decide)
theorem Ck(br shut:Bool)(hr:cJ E 1 br):Rw (ab w mg mb ε0) g z [gW shut] (bE br) [] E bD [] 1 (cW g br++eR g shut) (!shut&&E.oe):=by
 rw[←QL (P:=ε0.P) (g:=g) (E:=E) (v:=[]) (v3:=[]) br shut];have R:=gi (mg:=mg) (mb:=mb) (z:=z) (k:=1) hw hg gY gY (tJ br shut) (KN g.u br shut) (fun U ht=>nomatch ht) (fun h=>by injection h) rfl hr (by decide);cases shut
 ·exact R
 ·exact R
theorem HW(hr:cJ E 1 true):Rw (ab w mg mb ε0) g z [dG 145] bD [] E jo [] 1 (eR g E.oe) false:=by
 rw[←Fu (P:=ε0.P) (v:=[]) (v3:=[]) E.oe];exact gi (k:=1) hw hg gY gY (w5 E.oe) (T9 g.u E.oe) (fun U ht=>nomatch ht) (fun h=>by injection h) rfl hr (by decide)
theorem Si(br:Bool)(hr:cJ E 1 br):Rw (ab w mg mb ε0) g z [dG 241] (bI br) [] E (bE br) [] 1 [] E.oe :=
 gi (k:=1) hw hg gY gY (wJ br) (Pk g.u br) (fun U ht=>nomatch ht) (fun h=>by injection h) rfl hr (by decide)
theorem MC(h3:e9 g v3)(hr:cJ E 1 false):Rw (ab w mg mb ε0) g z [dG 241] bR [dE,dq (.str (.k v3))] E (bE (aD g v3)) [] 1 (g.nl++ek g 0 v3) (cO g v3):=by
 have o3:(aD g v3&&(aD g v3&&ez g.best v3))=cO g v3:=by unfold cO;cases aD g v3<;>rfl
 rw[←AE (P:=ε0.P) (v:=[]),←o3];exact gi (k:=1) hw hg gY h3.t (GC (ce g v3)) (Ao g.u (ol hg v3) (cS _ (.tail _ (.tail _ (.head _))))) Ha (Jd h3) rfl hr (by decide)
theorem NM(hv:e9 g v)(hb:b∈[b1,bD])(shut:Bool)(hr:cJ E 3 true)(ht:E.T.length≤20000):Rw (ab w mg mb ε0) g z [eH,dq (.str (.k v)),gW shut] b [] E bD [] 3 ([45,45,45]++(dJ g g.best v++(cW g (aD g v)++eR g shut))) (!shut&&cO g v):=by
 have hbr:b.br=true:=by
  rcases bU hb with rfl|hb
  ·rfl
  ·rw[cH hb];rfl
 have o:(aD g v&&(aD g v&&ez g.best v))=cO g v:=by unfold cO;cases aD g v<;>rfl
 have R1:Rw (ab w mg mb ε0) g z [eH] b [] E b [eH] 1 [] E.oe:=gi (k:=3) hw hg gY gY (jx b [] .D) (ET hb g.u) (fun U ht=>nomatch ht) (fun h=>by injection h) rfl (show cJ E 3 b.br by rw[hbr];exact hr) (by decide);have F:=R1.trans (es2:=[dq (.str (.k v))]++[gW shut]) (b2:=bD) (q2:=[]) (j:=1+1) (o2:=([45,45,45]++dJ g g.best v)++(cW g (aD g v)++eR g shut)) (oe2:=!shut&&cO g v) fun E1 G1=>by
  have r1:cJ E1 2 b.br:=G1.keep (j:=2) hr;have t1:E1.T=E.T:=G1.t.trans (af _);have R2:Rw (ab w mg mb ε0) g z [dq (.str (.k v))] b [eH] E1 (bE (aD g v)) [] 1 ([45,45,45]++dJ g g.best v) (cO g v):=by
   rw[←Q8 (P:=ε0.P) (g:=g) (E:=E1) (v:=v) (v3:=v) b,←o];exact gi (k:=2) hw hg hv.t hv.t (uW b (ce g v)) (PI hb hg) sT (sS hv) rfl r1 (by decide)
  refine R2.trans fun E2 G2=>?_;have l:=t9 hg hv.t (ind:=g.best) ⟨(je hg).1,by have:=(je hg).2;lia⟩;have R3:=Ck (mg:=mg) (mb:=mb) (z:=z) hw hg (aD g v) shut (E:=E2) (G2.room (j:=1) r1 (by rw[G2.t,t1,ax,ax];show E.T.length+(3+_)≤30000;lia));rw[G2.e] at R3;exact R3
 rw[aX] at F;exact F
end
end
end
section
section
def iJ(g:Gs)(p:Nat)(v:List Nat):List Nat:=ek g p v++cW g (aD g v)
noncomputable def sB(g:Gs)(s:iL)(oe le:Bool):Prop:=match s with|.R0=>True|.RP v=>e9 g v∧cO g v=le|.IT _=>oe=le
noncomputable def j9(g:Gs)(le:Bool):List (Nat×List Nat)→Bool
 |[]=>le
 |t::r=>j9 g (cO g t.2) r
noncomputable def k8(s:iL):Bool:=match s with|.R0=>false|_=>true
section
variable {w:World}{mg mb:Str→Option Value}{ε0:Ev}{g:Gs}{v v3:List Nat}{z:Nat→aw}
variable (hw:ε0.P=w.params)(hg:eX g)
include hw hg
theorem T2{E:Es}(hv:e9 g v)(hi:sB g s E.oe le)(hr:cJ E 4 s.b.br)(ht:E.T.length≤20000) :
  ∃ s' o oe,Rw (ab w mg mb ε0) g z (dU p v) s.b s.q E s'.b s'.q 4 o oe∧o++s'.owed g=s.owed g++iJ g p v∧sB g s' oe (cO g v)∧k8 s'=true:=by
 cases s with
 |R0=>
  by_cases hp:p=0
  ·subst hp
   exact⟨.RP v,[],E.oe,(Sh hw hg hv (hr.mono (by decide))).up (by decide),rfl,⟨hv,rfl⟩,rfl⟩
  ·exact⟨.IT (aD g v),g.nl++ek g p v,cO g v,Ln hw hg hv hp hr,by unfold iJ;rw[aX];rfl,rfl,rfl⟩
 |RP v3=>
  apply aN hi;intro h3 _
  by_cases hp:p=0
  ·subst hp
   exact⟨.IT (aD g v),_,cO g v,(Kc hw hg hv h3 (hr.mono (by decide))).up (by decide),by unfold iJ;simp only [iL.owed,aX],rfl,rfl⟩
  ·exact⟨.IT (aD g v),_,cO g v,Td hw hg hv h3 hp hr ht,by unfold iJ;simp only [iL.owed,aX],rfl,rfl⟩
 |IT br=>exact⟨.IT (aD g v),cW g br++ek g p v,cO g v,PH hw hg hv p br hr,by unfold iJ;simp only [iL.owed,aX],rfl,rfl⟩
theorem I8(hv:e9 g v)(p:Nat):(iJ g p v).length≤8652:=by
 have h:=Hy hg hv.t p;have e3:(cW g (aD g v)).length≤2:=by unfold cW;cases aD g v;exact hg.nl.2;exact Nat.zero_le _
 unfold iJ;rw[ax];lia
theorem J4:∀ L:List (Nat×List Nat),(∀ t∈L,e9 g t.2)→(L.flatMap (fun t=>iJ g t.1 t.2)).length≤8652*L.length:=by
 intro L0;induction L0 with
 |nil=>
  intro _;exact Nat.zero_le _
 |cons t r ih=>
  intro hL;rw[List.flatMap_cons,ax,bb];have:=I8 hw hg (hL t (.head _)) t.1;have:=ih (fun x hx=>hL x (.tail _ hx));lia
theorem OS:∀ (L:List (Nat×List Nat)) {s:iL} {E:Es} {le:Bool} {k:Int},(∀ t∈L,e9 g t.2)→sB g s E.oe le→cJ E (4*L.length+k) s.b.br→0≤k→(E.T++s.owed g).length+8652*L.length≤26000 →
  ∃ s' o oe,Rw (ab w mg mb ε0) g z (L.flatMap fun t=>dU t.1 t.2) s.b s.q E s'.b s'.q (4*L.length) o oe∧o++s'.owed g=s.owed g++L.flatMap (fun t=>iJ g t.1 t.2)∧sB g s' oe (j9 g le L)∧(k8 s'=(k8 s ||!aF L)):=by
 intro L0;induction L0 with
 |nil=>
  intro s E le k _ hi hr _ _;exact⟨s,[],E.oe,⟨E,rfl,(af _).symm,⟨bz _,by show E.n≤E.n+2000*(4*((0:Nat):Int));lia⟩,⟨bz _,by show E.line≤E.line+2000*(4*((0:Nat):Int));lia⟩,hr.c,rfl,hr.z⟩,by simp,hi,by show k8 s=(k8 s ||!true);cases k8 s<;>rfl⟩
 |cons t r ih=>
  intro s E le k hL hi hr hk hl;rw[bb] at hr hl ⊢;push_cast at hr ⊢;rw[ax] at hl;have hv:=hL t (.head _);apply dD (T2 (p:=t.1) hw hg hv hi (hr.mono (by lia)) (by lia));intro s1 o1 oe1 R1 e1 i1 b1;apply ah R1;intro E1 m1 G1;have a1:=I8 hw hg hv t.1;have l1:(E1.T++s1.owed g).length≤(E.T++s.owed g).length+8652:=by
   rw[G1.t,aX,e1,ax,ax,ax];lia
  rw[List.length_append (as:=E.T)] at l1;have t1:E1.T.length≤30000:=by rw[ax] at l1;lia
  obtain⟨s2,o2,oe2,R2,e2,i2,b2⟩:=ih (fun x hx=>hL x (.tail _ hx)) (by rw[G1.e];exact i1) (G1.room (j:=4*r.length+k) (hr.mono (by lia)) t1) hk (by lia);refine⟨s2,o1++o2,oe2,?_,?_,i2,?_⟩
  ·apply ah R2;intro E2 m2 G2
   rw[show (4:Int)*((r.length:Int)+1)=4+4*r.length by lia,List.flatMap_cons];exact⟨E2,m1.app m2,G1.trans G2⟩
  ·rw[aX,e2,←aX,e1,List.flatMap_cons,aX]
  ·rw[b2,b1];cases k8 s<;>rfl
theorem Sx{E:Es}(hi:sB g s E.oe le)(hb:k8 s=true)(hr:cJ E 1 s.b.br):∃ br o,Rw (ab w mg mb ε0) g z [dG 241] s.b s.q E (bE br) [] 1 o le∧o++cW g br=s.owed g:=by
 cases s with
 |R0=>injection hb
 |RP v3=>
  apply aN hi;intro h3 e0;subst e0;exact⟨aD g v3,_,MC hw hg h3 hr,by simp only [iL.owed,aX]⟩
 |IT br=>
  replace hi:E.oe=le:=hi;rw[←hi];exact⟨br,[],Si hw hg br hr,rfl⟩
noncomputable def m9(y:Nat→AV):Es:=⟨[],0,0,0,false,y⟩
theorem PU(hL:∀ t∈L,e9 g t.2)(hn:L≠[])(h3:L.length≤3)(shut:Bool) :
  ∃ oe,Rw (ab w mg mb ε0) g z ([fM]++([eH,dE]++((L.flatMap fun t=>dU t.1 t.2)++([dG 241]++([gW shut]++[dG 145]))))) b0 [] (m9 y) jo [] 40 ([45,45,45]++(g.nl++(L.flatMap (fun t=>iJ g t.1 t.2)++(eR g shut++eR g (!shut&&j9 g false L))))) oe:=by
 have n2:=hg.nl.2;have r0:cJ (m9 y) 39 true:=⟨Nat.zero_le _,⟨bz _,(by decide:(0:Int)+2000*39≤80000)⟩,⟨bz _,(by decide:(0:Int)+2000*39≤80000)⟩,⟨bz _,(by decide:(0:Int)≤500)⟩,fun U=>rfl⟩;apply ah (GI hw hg (r0.mono (by decide)) rfl);intro E1 m1 G1;have r1:cJ E1 38 true:=G1.keep (j:=38) r0;apply ah (Uu hw hg (r1.mono (by decide)));intro E2 m2 G2;have t1:E1.T=[]:=G1.t;have t2:E2.T=[45,45,45]:=by rw[G2.t,t1];rfl
 have r2:cJ E2 36 false:=G2.room (j:=36) r1 (by rw[t2];decide);have l3:(L.length:Int)≤3:=by lia
 obtain⟨s,o,oe,R3,e3,i3,b3⟩:=OS hw hg L (s:=.R0) (E:=E2) (le:=false) (k:=24) hL trivial (r2.mono (by lia)) (by decide) (by rw[t2,ax];show 3+g.nl.length+_≤26000;lia);apply ah R3;intro E3 m3 G3;replace b3:k8 s=true:=by rw[b3];cases L with|nil=>exact absurd rfl hn|cons _ _=>rfl
 have al:=J4 (ε0:=ε0) hw hg L hL;have t3:(E3.T++s.owed g).length≤26000:=by
  rw[G3.t,aX,e3,t2];show ([45,45,45]++(g.nl++_)).length≤26000;rw[ax,ax];show 3+_≤26000;lia
 have r3:cJ E3 24 s.b.br:=G3.room (j:=24) (r2.mono (by lia)) (by rw[ax] at t3;lia);obtain⟨br,o4,R4,e4⟩:=Sx hw hg (by rw[G3.e];exact i3) b3 (r3.mono (by decide));apply ah R4;intro E4 m4 G4;have t4:(E4.T++cW g br).length≤26000:=by rw[G4.t,aX,e4];exact t3
 have r4:cJ E4 23 br:=G4.room (j:=23) r3 (by rw[ax] at t4;lia);apply ah (Ck hw hg br shut (r4.mono (by decide)));intro E5 m5 G5;have d2:∀ x,(eR g x).length≤5:=fun x=>by unfold eR;cases x;exact Nat.zero_le _;show ([46,46,46]++g.nl).length≤5;rw[ax];show 3+_≤5;lia
 have r5:cJ E5 22 true:=G5.room (j:=22) r4 (by rw[G5.t,←aX,ax];have:=d2 shut;lia);apply ah (HW hw hg (r5.mono (by decide)));intro E6 m6 G6;refine⟨false,E6,m1.app (m2.app (m3.app (m4.app (m5.app m6)))),?_⟩;have G:=(((((G1.trans G2).trans G3).trans G4).trans G5).trans G6);have e5:E5.oe=(!shut&&j9 g false L):=by rw[G5.e,G4.e]
 refine⟨?_,⟨G.n.1,by have:=G.n.2;lia⟩,⟨G.l.1,by have:=G.l.2;lia⟩,G.c,G.e,G.z⟩;rw[G6.t,G5.t,G4.t,G3.t,t2,e5];show _=[45,45,45]++_;have e4':o4++(cW g br++(eR g shut++eR g (!shut&&j9 g false L)))=s.owed g++(eR g shut++eR g (!shut&&j9 g false L)):=by rw[←aX,e4]
 simp only [aX];rw[e4',←aX o,e3];simp only [aX];rfl
end
end
end
section
section
def kM(g:Gs)(shut:Bool)(v:List Nat):List Nat:=[45,45,45]++(dJ g g.best v++(cW g (aD g v)++eR g shut))
def uM(shut:Bool)(v:List Nat):List AV:=[eH,dq (.str (.k v)),gW shut]
noncomputable def fb(b:Eb)(L:List (List Nat)):Eb:=match L with|[]=>b|_::_=>bD
theorem TP(L:List (List Nat)):fb bD L=bD:=by cases L<;>rfl
noncomputable def uS(g:Gs)(le:Bool):List (List Nat)→Bool
 |[]=>le
 |t::r=>uS g (cO g t) r
section
variable {w:World}{mg mb:Str→Option Value}{ε0:Ev}{g:Gs}{v v3:List Nat}{z:Nat→aw}
variable (hw:ε0.P=w.params)(hg:eX g)
theorem ND(hg:eX g)(x:Bool):(eR g x).length≤5:=by
 have:=hg.nl.2;unfold eR;cases x
 ·exact Nat.zero_le _
 ·show ([46,46,46]++g.nl).length≤5;rw[ax];show 3+_≤5;lia
theorem Dk(hg:eX g)(hv:e9 g v)(shut:Bool):(kM g shut v).length≤4310:=by
 have l:=t9 hg hv.t (ind:=g.best) ⟨(je hg).1,by have:=(je hg).2;lia⟩;have e3:(cW g (aD g v)).length≤2:=by unfold cW;cases aD g v;exact hg.nl.2;exact Nat.zero_le _
 have e4:=ND hg shut;unfold kM;rw[ax,ax,ax];show 3+_≤4310;lia
include hw hg
theorem Rg(shut:Bool):∀ (L:List (List Nat)) {b:Eb} {E:Es} {le:Bool} {k:Int},b∈[b1,bD]→(∀ t∈L,e9 g t)→E.oe=(!shut&&le)→cJ E (3*L.length+k) true→0≤k→E.T.length+4310*L.length≤20000 →
  Rw (ab w mg mb ε0) g z (L.flatMap (uM shut)) b [] E (fb b L) [] (3*L.length) (L.flatMap (kM g shut)) (!shut&&uS g le L):=by
 intro L0;induction L0 with
 |nil=>
  intro b E le k hb _ ho hr _ _;exact⟨E,rfl,(af _).symm,⟨bz _,by show E.n≤E.n+2000*(3*((0:Nat):Int));lia⟩,⟨bz _,by show E.line≤E.line+2000*(3*((0:Nat):Int));lia⟩,hr.c,ho,fun U=>hr.z rfl⟩
 |cons t r ih=>
  intro b E le k hb hL ho hr hk hl;rw[bb] at hr hl ⊢;push_cast at hr ⊢;have hv:=hL t (.head _);apply ah (NM hw hg hv hb shut (hr.mono (by lia)) (by lia));intro E1 m1 G1;have a1:=Dk hg hv shut;have t1:E1.T.length≤E.T.length+4310:=by rw[G1.t,ax];unfold kM at a1;lia
  have R2:=ih (.tail _ (.head _)) (fun x hx=>hL x (.tail _ hx)) G1.e (G1.room (j:=3*r.length+k) (hr.mono (by lia)) (by lia)) hk (by lia);rw[TP] at R2;apply ah R2;intro E2 m2 G2;refine⟨E2,?_,?_⟩
  ·rw[List.flatMap_cons];exact m1.app m2
  ·rw[show (3:Int)*((r.length:Int)+1)=3+3*r.length by lia,List.flatMap_cons]
   exact G1.trans G2
theorem Mr(hL:∀ t∈L,e9 g t)(hn:L≠[])(h3:L.length≤3)(shut:Bool) :
  Rw (ab w mg mb ε0) g z ([fM]++(L.flatMap (uM shut)++[dG 145])) b0 [] (m9 y) jo [] 40 (L.flatMap (kM g shut)++eR g (!shut&&uS g false L)) false:=by
 have r0:cJ (m9 y) 39 true:=⟨Nat.zero_le _,⟨bz _,(by decide:(0:Int)+2000*39≤80000)⟩,⟨bz _,(by decide:(0:Int)+2000*39≤80000)⟩,⟨bz _,(by decide:(0:Int)≤500)⟩,fun U=>rfl⟩;apply ah (GI (mg:=mg) (mb:=mb) (z:=z) hw hg (r0.mono (by decide)) rfl);intro E1 m1 G1;have r1:cJ E1 38 true:=G1.keep (j:=38) r0;have t1:E1.T=[]:=G1.t;have l3:(L.length:Int)≤3:=by lia
 have R2:=Rg (mg:=mg) (mb:=mb) (z:=z) hw hg shut L (b:=b1) (E:=E1) (le:=false) (k:=20) (.head _) hL (by rw[G1.e];cases shut<;>rfl) (r1.mono (by lia)) (by decide) (by rw[t1];show 0+4310*L.length≤20000;lia);have ef:fb b1 L=bD:=by cases L with|nil=>exact absurd rfl hn|cons _ _=>rfl
 rw[ef] at R2;apply ah R2;intro E2 m2 G2;have al:∀ M:List (List Nat),(∀ t∈M,e9 g t)→(M.flatMap (kM g shut)).length≤4310*M.length:=by
  intro M;induction M with
  |nil=>exact fun U=>Nat.zero_le _
  |cons t r ih=>
   intro hM;rw[List.flatMap_cons,ax,bb];have:=Dk hg (hM t (.head _)) shut;have:=ih (fun x hx=>hM x (.tail _ hx));lia
 have a:=al L hL;have r2:cJ E2 20 true:=G2.room (j:=20) (r1.mono (by lia)) (by rw[G2.t,t1];show (L.flatMap (kM g shut)).length≤30000;lia);apply ah (HW (mg:=mg) (mb:=mb) (z:=z) hw hg (r2.mono (by decide)));intro E3 m3 G3;have G:=(G1.trans G2).trans G3;refine⟨E3,m1.app (m2.app m3),?_,⟨G.n.1,by have:=G.n.2;lia⟩,⟨G.l.1,by have:=G.l.2;lia⟩,G.c,G.e,G.z⟩;rw[G3.t,G2.t,t1,G2.e];rfl
end
end
end
section
def nk:List Stmt:=(cM 817).body
def dw:List (Str×NameKind):=(cM 817).sc
def g7:uC:=By nk 1
theorem Ug:nk=aP 1 nk++.For g7.t g7.it g7.b [] g7.p::bk 2 nk:=by kernel_rfl
theorem Po:eD 817 gL=some (cM 817):=by kernel_rfl
noncomputable def βq:Bd:=[(0,0),(0,100000),(0,0),(0,0),(0,0),(0,100)]
def jy(v wide:AV)(t:SS):List (Str×AV):=[(cT,v),(lg,wide),(dg,.str t)]
def Ht(u:Bool)(c:Nat):bO:=⟨βq,bj,3,[],⟨jy (.any 20) (.bool u) [.var 0]++[(jb,.str [.lit [c]])],dw⟩,[],g7.b,.next,4,jy (.any 20) (.bool u) [.var 0,.lit (bL u c)]++[(jb,.str [.lit [c]])],[]⟩
def IG:bO:=⟨βq,bj,3,[],⟨[(cT,.str [.var 2]),(lg,.any 21)],dw⟩,[],aP 1 nk,.next,3,jy (.str [.var 2]) (.any 21) [],[]⟩
def Ai:nX:=⟨βq,bj,0,[],⟨jy (.str [.var 2]) (.any 21) [],dw⟩,[],g7.it,.str [.var 2],[]⟩
def EW:bO:=⟨βq,bj,3,[],⟨jy (.any 20) (.any 21) [.var 0],dw⟩,[],bk 2 nk,.ret (.str [.lit [34],.var 0,.lit [34]]),0,[],[]⟩
theorem FU:((tf.all fun u=>aZ.all fun c=>(Ht u c).chk)&&(IG.chk&&(Ai.chk&&EW.chk)))=true:=by kernel_rfl
end
section
section
def gj(u:Bool)(v:List Nat):List Nat:=34::(v.flatMap (bL u)++[34])
def εq(P:Params)(t v:List Nat):Ev:=dz P (fun U=>0) (tn [] [t,[],v])
def gp(v:List Nat)(u:Bool)(t:List Nat):List (Str×AV):=jy (.str (.k v)) (.bool u) (.k t)
section
variable {w:World}{mg mb:Str→Option Value}{ε0:Ev}{u:Bool}{v t:List Nat}
theorem v6(h1:t.length≤100000)(h2:v.length≤100)(P:Params):aM βq (εq P t v):=gx (by
 have e0:(0:Int)≤0∧(0:Int)≤0:=⟨bz _,bz _⟩;exact⟨e0,⟨bK _,by show (t.length:Int)≤100000;lia⟩,e0,e0,e0,⟨bK _,by show (v.length:Int)≤100;lia⟩,trivial⟩)
variable (hw:ε0.P=w.params)(he:ε0.Ok)
include hw
theorem HN(hd:d∈aZ)(h1:t.length≤100000)(h2:v.length≤100) :
  aQ (ab w mg mb ε0) 150 g7.b ⟨gp v u t++[(jb,bZ d)],dw⟩ [] .next ⟨gp v u (t++bL u d)++[(jb,bZ d)],dw⟩ []:=by
 have hj:=aq (aq (aB FU).1 u (cU u)) d hd;refine(ck (v:=fun U=>.str (.k v)) (z:=.any) hw (ε:=εq ε0.P t v) rfl (bM _ _ _) (Ht u d) (v6 h1 h2 _) ⟨rfl,(by decide:3≤12),rfl⟩ hj).cast ?_ rfl rfl ?_ rfl
 ·show (⟨jy (.str (.k v)) (.bool u) (.k (t++[]))++[(jb,.str (.k ([d]++[])))],dw⟩ : ac)=_
  rw[af];rfl
 ·show (⟨jy (.str (.k v)) (.bool u) (.k (t++(bL u d++[])))++[(jb,.str (.k ([d]++[])))],dw⟩ : ac)=_
  rw[af];rfl
include he
theorem Q2:∀ (r:List Nat) (t:List Nat) (b:AV),(∀ d∈r,d∈aZ)→t.length+4*r.length≤100000→v.length≤100 →
  ∃ b',Fz (ab w mg mb ε0) 150 g7.t g7.b (.vals (r.map bZ)) ⟨gp v u t++[(jb,b)],dw⟩ [] .next ⟨gp v u (t++r.flatMap (bL u))++[(jb,b')],dw⟩ []:=by
 intro L0;induction L0 with
 |nil=>
  intro t b _ _ _;exact⟨b,by rw[List.flatMap_nil,af];exact .stop rfl⟩
 |cons d r ih=>
  intro t b ha hl hv;rw[bb] at hl;have e:=sq u d;obtain⟨b',F⟩:=ih (t++bL u d) (bZ d) (fun x hx=>ha x (.tail _ hx)) (by rw[ax];lia) hv;rw[aX,←List.flatMap_cons] at F;exact⟨b',.step (it':=.vals (r.map bZ)) rfl (j6 hw he (show (cX [] bj 0).asg ⟨gp v u t++[(jb,b)],dw⟩ [] (bZ d) g7.t=some (⟨gp v u t++[(jb,bZ d)],dw⟩,[]) by kernel_rfl)) (HN hw (ha d (.head _)) (by lia) hv) F⟩
theorem Ez(ha:∀ d∈v,d∈aZ)(hl:v.length≤100):fnIn (cE w.params) 817=true∧Rz (ab w mg mb ε0) 155 [] 817 [.str (.k v),.bool u] (.str (.k (gj u v))) []:=by
 have ok:=aB (aB FU).2;have ok2:=aB ok.2;have A:aQ (ab w mg mb ε0) 150 (aP 1 nk) ⟨[(cT,.str (.k v)),(lg,.bool u)],dw⟩ [] .next ⟨gp v u [],dw⟩ []:=by
  refine(ck (mg:=mg) (mb:=mb) (v:=fun U=>.bool u) (z:=.any) hw (ε:=εq ε0.P [] v) rfl (bM _ _ _) IG (v6 (Nat.zero_le _) hl _) ⟨rfl,(by decide:3≤12),rfl⟩ ok.1).cast ?_ rfl rfl ?_ rfl
  ·show (⟨[(cT,.str (.k (v++[]))),(lg,.bool u)],dw⟩ : ac)=_;rw[af]
  ·show (⟨jy (.str (.k (v++[]))) (.bool u) [],dw⟩ : ac)=_;rw[af];rfl
 have Y:=wW (mg:=mg) (mb:=mb) (b:=0) (v:=fun U=>.bool u) (z:=.any) hw (ε:=εq ε0.P [] v) rfl (bM _ _ _) Ai (v6 (Nat.zero_le _) hl _) (fun U U U=>oN) rfl ok2.1;have Y2:Yz (ab w mg mb ε0) 150 g7.it ⟨gp v u [],dw⟩ [] (.str [.lit v]) []:=by
  have e1:cC (ai (εq ε0.P [] v) (fun U=>.bool u) .any) Ai.ls=⟨gp v u [],dw⟩:=by
   show (⟨jy (.str (.k (v++[]))) (.bool u) [],dw⟩ : ac)=_;rw[af];rfl
  rw[e1] at Y;refine Yz.conv (Y.le (by show 10*0+0+30≤150;decide)) fun imm ρ val hv=>?_;replace hv:VR (ab w mg mb ε0) imm ρ val (.str (.k (v++[]))):=hv;exact hv.sames (by rw[db,af];exact(af v).symm) (fun p hp=>by rw[cH hp];trivial)
 have hi0:sP [] (.str [.lit v])=some (.vals (v.map bZ)):=rfl;have F:∃ L,(∀ y x,lk y (gp v u (v.flatMap (bL u)))=some x→lk y L.v=some x)∧L.sc=dw∧Fz (ab w mg mb ε0) 150 g7.t g7.b (.vals (v.map bZ)) ⟨gp v u [],dw⟩ [] .next L []:=by
  match hvv:v,ha,hl with
  |[],_,_=>exact⟨⟨gp [] u [],dw⟩,fun U U h=>h,rfl,.stop rfl⟩
  |d::r,ha,hl=>
   have e:=sq u d;rw[bb] at hl;obtain⟨b',F⟩:=Q2 (mg:=mg) (mb:=mb) (u:=u) (v:=d::r) hw he r ([]++bL u d) (bZ d) (fun x hx=>ha x (.tail _ hx)) (by show (bL u d).length+4*r.length≤100000;lia) (by rw[bb];lia);refine⟨_,fun y x h=>?_,rfl,.step (it':=.vals (r.map bZ)) rfl (j6 hw he (show (cX [] bj 0).asg ⟨gp (d::r) u [],dw⟩ [] (bZ d) g7.t=some (⟨gp (d::r) u []++[(jb,bZ d)],dw⟩,[]) by kernel_rfl)) (HN (t:=[]) hw (ha d (.head _)) (Nat.zero_le _) (by rw[bb];lia)) F⟩;rw[List.flatMap_cons] at h;exact rD h
 apply dh F;intro L f1 _ F;have D:=Dz.for_ (pos:=g7.p) (by kernel_rfl) (by kernel_rfl) Y2 hi0 F;replace D:=Dz.post (ls:=⟨gp v u [],dw⟩) (ls1:=L) (ls0:=⟨gp v u (v.flatMap (bL u)),dw⟩) rfl f1 D;have le:=vL u v;have Z:aQ (ab w mg mb ε0) 150 (bk 2 nk) ⟨gp v u (v.flatMap (bL u)),dw⟩ [] (.ret (.str (.k (gj u v)))) ⟨[],dw⟩ []:=by
  refine(ck (mg:=mg) (mb:=mb) (v:=(fun i=>tn (.bool u) [.str (.k v)] (i-20))) (z:=.any) hw (ε:=εq ε0.P (v.flatMap (bL u)) v) rfl (bM _ _ _) EW (v6 (by lia) hl _) ⟨rfl,(by decide:3≤12),rfl⟩ ok2.2).cast ?_ rfl ?_ rfl rfl
  ·show (⟨jy (.str (.k v)) (.bool u) (.k (v.flatMap (bL u)++[])),dw⟩ : ac)=_;rw[af];rfl
  ·show Fl.ret (.str (.k (34::(v.flatMap (bL u)++[34]))))=_;rfl
 have B:=A.append (D.cons Z);rw[←Ug] at B;exact pU hw he Po (by kernel_rfl) B rfl
end
end
end
section
section
def oi:List Stmt:=(cM 824).body
def lw:List (Str×NameKind):=(cM 824).sc
theorem SD:eD 824 gL=some (cM 824):=by kernel_rfl
theorem LQ:oi=aP 1 oi++bk 1 oi:=by kernel_rfl
def lU(tx:SS)(b:AV):List (Str×AV):=[(cT,.str tx),(lT,b)]
def Jg(best c:Nat):bO:=⟨βH,bj,3,[],⟨lU [.lit [c],.var 3] (I best),lw⟩,([]:St),aP 1 oi,.next,3,lU [.lit [c],.var 3] (I best)++[(jG,.str (.k (dI best c)))],([]:St)⟩
def FY(tx e:SS):bO:=⟨βH,bj,3,[],⟨lU tx (.any 20)++[(jG,.str [.var 6])],lw⟩,([]:St),bk 1 oi,.ret (.str (.var 6::e)),0,[],([]:St)⟩
def Hr(K:SS→SS→Bool):Bool:=aZ.all fun e=>Bool.rec (K [.var 2,.lit [e]] [.lit [45]]) (K [.lit [e]] [.lit [43]]&&(aZ.all fun d=>K [.var 2,.lit [d,e]] (Bool.rec [] [.lit [43]] (aC d)))) (aC e)
theorem JE{K:SS→SS→Bool}(ok:Hr K=true){v:List Nat}(hv:v≠[])(ha:∀ c∈v,c∈aZ):∃ (tx:SS) (e:SS) (A:List Nat),K tx e=true∧A.length≤v.length∧(∀ P i t,t 2=A→tx.val (dz P i t)=v)∧(∀ ε,e.val ε=fm v):=by
 obtain⟨m,e,rfl⟩ : ∃ m e,v=m++[e]:=⟨v.dropLast,v.getLast hv,(List.dropLast_concat_getLast hv).symm⟩;have he:=aq ok e (ha e (cS _ (.head _)));have hE:fm (m++[e])=Bool.rec [45] (match m.reverse with|[]=>[43]|d::_=>Bool.rec [] [43] (aC d)) (aC e):=by
  unfold fm;rw[List.reverse_append];rfl
 cases hB:aC e with
 |false=>
  rw[hB] at he hE;exact⟨_,_,m,he,by simp,fun P i t ht=>by show t 2++([e]++[])=_;rw[ht];rfl,fun ε=>by rw[hE];rfl⟩
 |true=>
  rw[hB] at he hE;replace he:=aB he
  by_cases hm:m=[]
  ·subst hm
   exact⟨_,_,[],he.1,by simp,fun P i t U=>rfl,fun ε=>by rw[hE];rfl⟩
  ·obtain⟨m',d,rfl⟩ : ∃ m' d,m=m'++[d]:=⟨m.dropLast,m.getLast hm,(List.dropLast_concat_getLast hm).symm⟩
   have hd:=aq he.2 d (ha d (bq _ (cS _ (.head _))));refine⟨_,_,m',hd,by simp,fun P i t ht=>by show t 2++([d,e]++[])=_;rw[ht,aX];rfl,fun ε=>?_⟩;rw[hE,List.reverse_append];show SS.val ε (Bool.rec [] [.lit [43]] (aC d))=Bool.rec [] [43] (aC d);cases aC d<;>rfl
theorem Qn:((aZ.all fun c=>fN.all fun b=>(Jg b c).chk)&&Hr fun tx e=>(FY tx e).chk)=true:=by kernel_rfl
section
variable {w:World}{mg mb:Str→Option Value}{ε0:Ev}{best:Nat}
theorem Iw(hw:ε0.P=w.params)(he:ε0.Ok)(hb:best∈fN)(hv:v≠[])(ha:∀ c∈v,c∈aZ)(hl:v.length≤400) :
  fnIn (cE w.params) 824=true∧Rz (ab w mg mb ε0) 155 [] 824 [.str (.k v),I best] (.str (.k (cI best v))) []:=by
 have ok:=aB Qn;obtain⟨c,r,rfl⟩ : ∃ c r,v=c::r:=by cases v with|nil=>exact absurd rfl hv|cons c r=>exact⟨c,r,rfl⟩
 have hc:=aq (aq ok.1 c (ha c (.head _))) best hb;have hr:r.length≤400:=by rw[bb] at hl;lia
 have eI:∀ ε h,flA (ai ε h .any) (I best)=I best:=fun ε h=>by show AV.int (.k ((am.k best).val _))=_;rw[bV];rfl
 have DA:aQ (ab w mg mb ε0) 150 (aP 1 oi) ⟨lU (.k (c::r)) (I best),lw⟩ [] .next ⟨lU (.k (c::r)) (I best)++[(jG,.str (.k (dI best c)))],lw⟩ []:=by
  refine(ck (v:=fun U=>.none) (z:=.any) hw (ε:=jM ε0.P [] r []) rfl (bM _ _ _) (Jg best c) (nJ (by decide) hr (by decide)) ⟨rfl,(by decide:3≤12),rfl⟩ hc).cast ?_ rfl rfl ?_ rfl
  ·show (⟨lU (.k ([c]++(r++[]))) (flA _ (I best)),lw⟩ : ac)=_;rw[af,eI];rfl
  ·show (⟨lU (.k ([c]++(r++[]))) (flA _ (I best))++[(jG,.str (.k (SS.val _ (.k (dI best c)))))],lw⟩ : ac)=_;rw[af,db,eI];rfl
 apply dD (JE ok.2 hv ha);intro tx e A hj hA etx ee;have lA:=xB best c;have DB:aQ (ab w mg mb ε0) 150 (bk 1 oi) ⟨lU (.k (c::r)) (I best)++[(jG,.str (.k (dI best c)))],lw⟩ [] (.ret (.str (.k (cI best (c::r))))) ⟨[],lw⟩ []:=by
  refine(ck (v:=fun U=>I best) (z:=.any) hw (ε:=jM ε0.P A [] (dI best c)) rfl (bM _ _ _) (FY tx e) (nJ (by lia) (by decide) (by lia)) ⟨rfl,(by decide:3≤12),rfl⟩ hj).cast ?_ rfl ?_ rfl rfl
  ·show (⟨lU (.k (tx.val _)) (I best)++[(jG,.str (.k (dI best c++[])))],lw⟩ : ac)=_;rw[af,show tx.val (jM ε0.P A [] (dI best c))=_ from etx _ _ _ rfl]
  ·show Fl.ret (.str (.k (dI best c++e.val _)))=_;rw[ee];rfl
 have B:=DA.append DB;rw[←LQ] at B;exact pU hw he SD (by kernel_rfl) B rfl
end
end
end
section
section
open Classical in
def eV(σ0:St)(f:Addr)(vs:List AV)(r:AV)(σ1:St):St→Addr→List AV→List (Str×AV)→Option (AV×St):=fun σ g us kw=>if σ=σ0∧g=f∧us=vs∧kw=[] then some (r,σ1) else none
theorem Ex:eV σ0 f vs r σ1 σ0 f vs []=some (r,σ1):=by
 unfold eV;rw[if_pos ⟨rfl,rfl,rfl,rfl⟩]
def kI(Y:Pi)(R:aR)(cf:St→Addr→List AV→List (Str×AV)→Option (AV×St)):aR:={R with cl:=nC Y {R with cf:=cf},cf:=cf}
section
variable {Γ:ar}{Y:Pi}{b:Nat}
set_option tactic.hygienic true in
theorem Kj(P:g8 Γ b Y)(hf:fnIn Γ.K f=true)(H:Rz Γ (10*d+b+25) σ1 f vs r σ2)
  (h1:(mk Y N d).ev ls σ (.Name x q)=some (.fn f,σ)) (h2:(mk Y N d).evs ls σ as=some (vs,σ1)) (h3:(mk Y N d).evk ls σ1 []=some ([],σ1)):Yz Γ (10*d+b+30) (.Call (.Name x q) as [] cp) ls σ r σ2:=by
 have A:=gu P N d;have hcf:∀ {σ g us kw r' σ'},eV σ1 f vs r σ2 σ g us kw=some (r',σ')→fnIn Γ.K g=true∧cF Γ (10*d+b+25) σ g us kw r' σ':=by
  intro s2 g us kw r' s3 hq;unfold eV at hq
  split at hq
  ·rename_i e
   apply nq e;intro e1 e2 e3 e4;(apply j2 hq;clear hq;rintro rfl rfl);rw[e1,e2,e3,e4];have D:cF Γ (10*d+b+25) σ1 f vs [] _ s3:=H.h;exact⟨hf,@D⟩
  ·injection hq
 have I2:bW Γ (10*d+b+30) (kI Y (mk Y N d) (eV σ1 f vs r σ2)):=⟨A.E.ev,A.E.evo,A.E.evs,A.E.evk,A.E.bl,A.E.cc,A.E.tst,A.E.tb⟩;have J2:nt Γ (10*d+b+30) (kI Y (mk Y N d) (eV σ1 f vs r σ2)):=⟨fun h=>⟨(hcf h).1,cF.le (by lia) (hcf h).2⟩,by
  intro σ fv us kw r' σ' h;apply d5 (AL (n:=10*d+b+25) P.hy hcf (fun h=>xP P.hw P.he P.hb P.hy h) h);intro a b' c;exact⟨a,jp.le (by lia) b',fun g self e=>⟨(c g self e).1,cF.le (by lia) (c g self e).2⟩⟩⟩
 have D:b9 Γ (10*d+b+30) (fun c=>eval (.Call (.Name x q) as [] cp) c.env) ls σ r σ2:=Cf I2 J2 (show xV (kI Y (mk Y N d) (eV σ1 f vs r σ2)) ls σ x q as []=some (r,σ2) by
  show obp ((mk Y N d).ev ls σ (.Name x q)) (fun fv σ=>obp ((mk Y N d).evs ls σ as) fun vs' σ=>obp ((mk Y N d).evk ls σ []) fun kw σ=>nC Y {mk Y N d with cf:=eV σ1 f vs r σ2} σ fv vs' kw)=_;rw[h1];show obp ((mk Y N d).evs ls σ as) (fun vs' σ=>obp ((mk Y N d).evk ls σ []) fun kw σ=>nC Y {mk Y N d with cf:=eV σ1 f vs r σ2} σ (.fn f) vs' kw)=_;rw[h2];show obp ((mk Y N d).evk ls σ1 []) (fun kw σ=>nC Y {mk Y N d with cf:=eV σ1 f vs r σ2} σ (.fn f) vs kw)=_;rw[h3];exact Ex)
 exact⟨@D⟩
end
end
end
section
section
noncomputable def dX(Γ:ar)(n:Nat)(t:Cx→Sem Flow)(ls:ac)(σ:St)(f:Fl)(ls':ac)(σ':St):Prop :=
 ∀ {c A s m imm cs} {Q:Flow→Shared→Prop} {E:Value→Shared→Prop},bp Γ c A n→cK c ls→aj Γ c.h₀ c.L s.heap m ls.v σ imm cs →
  (∀ h' tk m' imm' cs' fl,aj Γ c.h₀ c.L h' m' ls'.v σ' imm' cs'→cK c ls'→(∀ p∈imm,p∈imm')→FR Γ imm' cs' fl f→Q fl {s with heap:=h',toks:=tk})→wpAny (model Γ.prog Γ.w) A (t c) Q E s
section
variable {Γ:ar}{n:Nat}
theorem bt.goes(H:bt Γ n t ls σ f ls' σ'):dX Γ n t ls σ f ls' σ':=by
 intro c A s m imm cs Q E C l R k;exact H C l R fun h' tk m' imm' cs' fl R' l' x' f'=>k h' tk m' imm' cs' fl R' l' x'.i f'
theorem dX.nil:dX Γ n (fun c=>execs [] c.env) ls σ .next ls σ:=bt.goes bt.nil
theorem dX.cons{st:Stmt}{r:List Stmt}{ls ls1 ls2:ac}{σ σ1 σ2:St}{f:Fl}(h1:dX Γ n (fun c=>exec st c.env) ls σ .next ls1 σ1)(h2:dX Γ n (fun c=>execs r c.env) ls1 σ1 f ls2 σ2):dX Γ n (fun c=>execs (st::r) c.env) ls σ f ls2 σ2:=by
 intro c A s m imm cs Q E C l Rp k;refine wpAny_execs_cons (h1 C l Rp fun hx tx mx ix cx fl Rx lx xx fx=>?_);(obtain e:_=_:=FR.inv fx;subst e);exact h2 C lx (s:={s with heap:=hx,toks:=tx}) Rx fun h2 t2 m2 i2 c2 fl R2 l2 x2 f2=>k h2 t2 m2 i2 c2 fl R2 l2 (fun p hp=>x2 p (xx p hp)) f2
theorem dX.le(hn:n'≤n)(H:dX Γ n' t ls σ f ls' σ'):dX Γ n t ls σ f ls' σ':=by
 intro c A s m imm cs Q E C;exact H (C.le hn)
end
def tw(idx:List Nat)(k:Nat):Nat:=List.rec (motive:=fun U=>Nat) 0 (fun i U ih=>Bool.rec (Nat.succ ih) 0 (Nat.beq i k)) idx
def gU(idx:List Nat):eY:=⟨id,id,.any,.any,tw idx⟩
def md(σ:St)(i:Nat):aw:=match ak σ i with|some c=>c|none=>.list []
def pJ(idx:List Nat)(σ:St):St:=idx.map fun i=>fC (gU idx) (md σ i)
def g9(cs:List CC)(i:Nat):CC:=match ak cs i with|some c=>c|none=>.list 0 [] 0
theorem ML:k∈idx→ak idx (tw idx k)=some k:=by
 induction idx with
 |nil=>intro h;cases h
 |cons i r ih=>
  intro h;show ak (i::r) (Bool.rec (Nat.succ (tw r k)) 0 (Nat.beq i k))=some k;cases e:Nat.beq i k with
  |true=>rw[bX e];rfl
  |false=>
   rcases bU h with rfl|h
   ·rw[show Nat.beq k k=true from Nat.beq_refl k] at e;injection e
   ·exact ih h
theorem A6{α β:Type}(f:α→β)(l:List α)(i:Nat):ak (l.map f) i=(ak l i).map f:=by rw[dH,dH,List.getElem?_map]
theorem Ac{cs:List CC}(h:i<cs.length):ak cs i=some (g9 cs i):=by
 unfold g9;rw[dH,List.getElem?_eq_getElem h]
noncomputable def uJ(c:CC):List Addr:=c.objs.map Prod.fst
theorem MS(cs:List CC):(aL cs).map Prod.fst=cs.flatMap uJ:=by unfold aL uJ;rw[List.map_flatMap]
noncomputable def apart(a b:CC):Prop:=∀ x∈uJ a,∀ y∈uJ b,x≠y
theorem KS{cs:List CC}{idx:List Nat}(hi:idx.Nodup)(hl:∀ i∈idx,i<cs.length)(h:((imm++aL cs).map Prod.fst).Nodup):((imm++aL (idx.map (g9 cs))).map Prod.fst).Nodup:=by
 rw[List.map_append,MS] at h ⊢;apply d5 (List.nodup_append.mp h);intro h1 h2 h3;have hp:=List.pairwise_flatMap.mp h2;have get:∀ i,i<cs.length→g9 cs i∈cs:=fun i hi=>by
  have:=Ac hi;rw[dH] at this;exact List.mem_of_getElem? this
 refine List.nodup_append.mpr ⟨h1,List.pairwise_flatMap.mpr ⟨fun c hc=>?_,List.pairwise_map.mpr ?_⟩,fun a ha b hb=>?_⟩
 ·apply ah (dm hc);intro i h4 e0;subst e0
  exact hp.1 _ (get i (hl i h4))
 ·have key:∀ i j,i<cs.length→j<cs.length→i≠j→apart (g9 cs i) (g9 cs j):=by
   intro i j hi hj hne;have e1:∀ i (h:i<cs.length),g9 cs i=cs[i]:=fun i h=>by
    unfold g9;rw[dH,List.getElem?_eq_getElem h]
   rw[e1 i hi,e1 j hj];have pw:=List.pairwise_iff_getElem.mp hp.2;rcases Nat.lt_or_gt_of_ne hne with q|q
   ·exact pw i j hi hj q
   ·intro x hx y hy e
    exact pw j i hj hi q y hy x hx e.symm
  exact List.Pairwise.imp_of_mem (fun {i j} ha hb hne=>key i j (hl i ha) (hl j hb) hne) hi
 ·apply ah (List.mem_flatMap.mp hb);intro c hc hk
  apply ah (dm hc);intro i h4 e0;subst e0;exact h3 a ha b (List.mem_flatMap.mpr ⟨_,get i (hl i h4),hk⟩)
section
variable {Γ:ar}
def uX(idx:List Nat)(ls:List (Str×AV))(σ:St):Bool :=
 l8 idx&&(idx.all (fun i=>Nat.blt i (aA σ))&&((idx.all fun i=>(pW (md σ i)).all fun x=>match x with|.cell k=>aK k idx|_=>true)&&(dc ls).all fun x=>match x with|.cell k=>aK k idx|_=>true))
theorem HV(he:Γ.ε.Ok)(idx:List Nat):eJ Γ [] Γ.ε (gU idx):=⟨rfl,he,fun U U h=>(by injection h),fun U=>rfl,fun U=>rfl,fun U h=>h⟩
theorem DJ{l:List AV}(hl:(l.all fun x=>match x with|.cell k=>aK k idx|_=>true)=true)(hr:∀ k∈idx,∀ a,ak ρ k=some a→ak ρ' (tw idx k)=some a):d8 Γ (gU idx) imm ρ ρ' Γ.ε.ov l:=by
 refine⟨fun i hi=>?_,fun k hk=>hr k ?_⟩
 ·exact .any rfl
 ·apply ah (List.mem_flatMap.mp hk);intro x h1 h2
  have:=aq hl x h1;induction x using AV.casesOn with
  |cell j=>rw[cH h2];exact o9.mp this
  |_=>cases h2
theorem bu.cell_at(h:bu Γ imm ρ cs σ)(i:Nat)(hi:i<σ.length):CR Γ imm ρ (g9 cs i) (md σ i):=by
 induction h generalizing i with
 |nil=>exact absurd hi (Nat.not_lt_zero _)
 |cons h _ ih=>
  cases i with
  |zero=>exact h
  |succ i=>exact ih i (Nat.lt_of_succ_lt_succ hi)
theorem aj.pick(he:Γ.ε.Ok)(R:aj Γ h₀ L h m ls σ imm cs)(hs:∀ x v,lk x ls1=some v→lk x ls=some v)(ok:uX idx ls1 σ=true) :
  aj Γ h₀ L h m (fQ (gU idx) ls1) (pJ idx σ) imm (idx.map (g9 cs)):=by
 have a:=aB ok;have b:=aB a.2;have d:=aB b.2;have o1:=a.1;have o2:=b.1;have o3:=d.1;have o4:=d.2;have nd:=Bv o1;have lt:∀ i∈idx,i<σ.length:=fun i hi=>by
  have:=aq o2 i hi;rw[b7] at this;exact df this
 have ltc:∀ i∈idx,i<cs.length:=fun i hi=>by rw[R.C.len];exact lt i hi
 have hr:∀ k∈idx,∀ a,ak (ae cs) k=some a→ak (ae (idx.map (g9 cs))) (tw idx k)=some a:=fun k hk a ha=>by
  unfold ae at ha ⊢;rw[A6,Ac (ltc k hk)] at ha;rw[A6,A6,ML hk];exact ha
 have mem:∀ q∈aL (idx.map (g9 cs)),q∈aL cs:=fun q hq=>by
  apply ah (List.mem_flatMap.mp hq);intro c hc hk;apply ah (dm hc);intro i h4 e0;subst e0;refine List.mem_flatMap.mpr ⟨_,?_,hk⟩;have:=Ac (ltc i h4);rw[dH] at this;exact List.mem_of_getElem? this
 refine⟨R.F,fun q hq=>R.N q ?_,KS nd ltc R.nd,?_,?_⟩
 ·rcases ey hq with a|a
  ·exact bq _ a
  ·exact cS _ (mem q a)
 ·have go:∀ l:List Nat,(∀ i∈l,i∈idx)→bu Γ imm (ae (idx.map (g9 cs))) (l.map (g9 cs)) (l.map fun i=>fC (gU idx) (md σ i)):=by
   intro l;induction l with
   |nil=>intro _;exact .nil
   |cons i r ih=>
    intro h;have hi:=h i (.head _);refine .cons ?_ (ih fun j hj=>h j (.tail _ hj));have cr:CR (Γ.wE (Γ.ε.wO Γ.ε.ov Γ.ε.cv)) imm (ae cs) (g9 cs i) (md σ i):=bu.cell_at R.C i (lt i hi);exact CR.up (HV he idx) _ (DJ (aq o3 i hi) hr) (fun j U=>.any rfl) cr
  exact go idx fun U h=>h
 ·have hl:mE (Γ.wE (Γ.ε.wO Γ.ε.ov Γ.ε.cv)) imm (ae cs) m ls1:=fun x v hx=>R.l x v (hs x v hx)
  exact vP (HV he idx) (DJ o4 hr) hl
theorem dX.pick{ls ls' ls1:ac}(he:Γ.ε.Ok)(hs1:ls1.sc=ls.sc)(hs:∀ x v,lk x ls1.v=some v→lk x ls'.v=some v)(ok:uX idx ls1.v σ'=true)(H:dX Γ n t ls σ .next ls' σ') :
  dX Γ n t ls σ .next ⟨fQ (gU idx) ls1.v,ls1.sc⟩ (pJ idx σ'):=by
 intro c A s m imm cs Q E C l R k;refine H C l R fun h' tk m' imm' cs' fl R' l' x' f'=>?_;(obtain e:_=_:=FR.inv f';subst e);refine k h' tk m' imm' _ _ (R'.pick he hs ok) ⟨hs1▸l.sc,fun x v hx=>?_,l'.nd⟩ x' .next;replace hx:lk x (fQ (gU idx) ls1.v)=some v:=hx;rw[o8] at hx;cases q:lk x ls1.v with
 |none=>rw[q] at hx;injection hx
 |some u=>exact l'.lo x u (hs x u q)
end
end
end
section
section
section
variable {Γ:ar}{n:Nat}
inductive rP (Γ:ar) (n:Nat) (t:Expr) (b:List Stmt):Nat→Nat→ac→St→ac→St→Prop
 |done {k:Nat} {ls:ac} {σ:St}:rP Γ n t b k 0 ls σ ls σ
 |step {k m:Nat} {ls ls0 ls1 ls2:ac} {σ σ0 σ1 σ2:St}:jl Γ n (fun c=>assign t c.env) (.int (.k (.ofNat k))) ls σ ls0 σ0→dX Γ n (fun c=>execs b c.env) ls0 σ0 .next ls1 σ1→rP Γ n t b (k+1) m ls1 σ1 ls2 σ2→rP Γ n t b k (m+1) ls σ ls2 σ2
theorem JD{σ:St}{c:Cx}{A:Around}{nn:Nat}{s:Shared}{m:Str→Option Value}{ls:List (Str×AV)}{imm:List (Addr×Obj)}{cs:List CC}{I:Addr}{Q:Option Value→Shared→Prop}{E:Value→Shared→Prop}{i j:Nat}
  (C:bp Γ c A nn) (R:aj Γ c.h₀ c.L s.heap m ls σ imm cs) (a:(I,fO i (j+1))∈imm)
  (k:∀ h' tk imm' val,aj Γ c.h₀ c.L h' m ls σ imm' cs→(∀ q∈imm,q.1≠I→q∈imm')→(I,fO (i+1) j)∈imm'→VR Γ imm' (ae cs) val (.int (.k (.ofNat i)))→Q (some val) {s with heap:=h',toks:=tk}):wpAny (model Γ.prog Γ.w) A (pyNext (.ref I)) Q E s:=by
 have ho:da (fO i (j+1))=true:=by dsimp only [da,fO];decide
 have hg:=(R.N _ (bq _ a)).1;refine wpAny_pyNext_range_item (x:=(i:Int)) (left:=((j+1:Nat):Int)) (step:=1) hg (by lia) fun h' hit' hs=>?_;have hit':h'.get? I=some (fO (i+1) j):=by
  have e1:((j+1:Nat):Int)-1=(j:Int):=by lia
  have e2:(i:Int)+1=((i+1:Nat):Int):=by lia
  replace hit':h'.get? I=some {cls:=.type "range_iterator",data:=.fields #[rawInt ((i:Int)+1),rawInt (((j+1:Nat):Int)-1),rawInt 1]}:=hit';rw[e1,e2] at hit';exact hit'
 exact k h' _ _ _ (R.putIter a ho hs.extBut hit') (fun q hq hn=>.tail _ (gC.mpr ⟨hq,nr hn⟩)) (.head _) (.int (bV _).symm)
theorem Qf{σ:St}{c:Cx}{A:Around}{nn:Nat}{s:Shared}{m:Str→Option Value}{ls:List (Str×AV)}{imm:List (Addr×Obj)}{cs:List CC}{I:Addr}{Q:Option Value→Shared→Prop}{E:Value→Shared→Prop}{i:Nat}
  (C:bp Γ c A nn) (R:aj Γ c.h₀ c.L s.heap m ls σ imm cs) (a:(I,fO i 0)∈imm)
  (k:∀ h' tk imm',aj Γ c.h₀ c.L h' m ls σ imm' cs→(∀ q∈imm,q.1≠I→q∈imm')→Q none {s with heap:=h',toks:=tk}):wpAny (model Γ.prog Γ.w) A (pyNext (.ref I)) Q E s:=by
 have ho:da (fO i 0)=true:=by dsimp only [da,fO];decide
 have hg:=(R.N _ (bq _ a)).1;exact wpAny_pyNext_range_end C.hd (x:=(i:Int)) (left:=0) (step:=1) hg (bz _) fun h' hs=>k h' s.toks _ (R.dropIter a ho hs) fun q hq hn=>gC.mpr ⟨hq,nr hn⟩
theorem Q9(ht:ie t=true)(h:rP Γ n t b k m ls σ ls' σ') :
  ∀ {c A s mm imm cs I} {Rq:Result→Shared→Prop},bp Γ c A n→cK c ls→aj Γ c.h₀ c.L s.heap mm ls.v σ imm cs→(I,fO k m)∈imm →
  (∀ h' tk m' imm' cs',aj Γ c.h₀ c.L h' m' ls'.v σ' imm' cs'→cK c ls'→(∀ q∈imm,q.1≠I→q∈imm')→Rq (.ok .next) {s with heap:=h',toks:=tk})→codeAny (model Γ.prog Γ.w) A (.forLoop t (.ref I) b [] c.env) Rq s:=by
 induction h with
 |done=>
  intro c A s mm imm cs I Rq C l R hi q;refine lc (Qf C R hi fun h' tk imm' R' x'=>?_);exact wpAny_execs_nil (q h' tk mm imm' cs R' l x')
 |step hs hg _ ih=>
  intro c A s mm imm cs I Rq C l R hi q;refine lc (JD C R hi fun h' tk imm' val R' x' hi' hv=>?_);refine sz ht (s:={s with heap:=h',toks:=tk}) (R'.N _ (bq _ hi')).1 ⟨by dsimp only [da,fO];decide,by dsimp only [o0,fO];decide⟩ ?_;refine hs C l (s:={s with heap:=h',toks:=tk}) R' hv fun ha ta ma ia ca Ra la xa=>?_;refine hg C la (s:={s with heap:=ha,toks:=ta}) Ra fun hz tz mz iz cz fl Rz lz xz fz=>?_;(obtain e:_=_:=FR.inv fz;subst e);exact ih C lz (s:={s with heap:=hz,toks:=tz}) Rz (xz _ (xa.i _ hi')) fun h2 t2 m2 i2 c2 R2 l2 x2=>q h2 t2 m2 i2 c2 R2 l2 fun p hp hne=>x2 p (xz p (xa.i p (x' p hp hne))) hne
theorem dX.range(he:Γ.ε.Ok)(ht:ie t=true)(hit:mc it=true)(hy:b9 Γ n (fun c=>eval it c.env) ls σ (.rng j) σ0)(ok:uX idx ls.v σ0=true)(h:rP Γ n t b 0 j ⟨fQ (gU idx) ls.v,ls.sc⟩ (pJ idx σ0) ls' σ') :
  dX Γ n (fun c=>exec (.For t it b [] pos) c.env) ls σ .next ls' σ':=by
 intro c A s m imm cs Q E C l R k;show wpAny _ _ (exec (.For t it b [] pos) c.env) _ _ _;rw[exec_For];refine wpAny_bind (wpAny_standAt (wpAny_bind (hy C l R fun hx tx ix cx va Rx xx qx=>?_)));apply ow qx.inv;intro aa tt uu vv e0 hb hle;subst e0;have hfold:foldedSetIterable it c.env (.ref aa)=pure (.ref aa):=by
  unfold foldedSetIterable;induction it using PySem.Expr.casesOn<;>first|rfl|(exact Bool.noConfusion (show false=true from hit))
 rw[hfold];refine wpAny_bind (wpAny_pure (wpAny_bind (wpAny_standAt (wpAny_bind (wpAny_holding ?_)))));have hr:IsRange hx aa 0 (j:Int) 1 tt uu vv:=(Rx.N _ (bq _ hb)).1;have hsz:Builtin.Range.rangeSize 0 (j:Int) 1=(j:Int):=by
  rw[rangeSize_one]
  split<;>lia
 refine wpAny_pyIter_range hr (small_one (by lia) (by lia) (by lia) (by lia)) ?_;rw[hsz];have l0:cK c ⟨fQ (gU idx) ls.v,ls.sc⟩:=⟨l.sc,fun x v hx=>by
  replace hx:lk x (fQ (gU idx) ls.v)=some v:=hx;rw[o8] at hx;cases q:lk x ls.v with
  |none=>rw[q] at hx;injection hx
  |some u=>exact l.lo x u q,l.nd⟩
 refine wpAny_runOwn (Q9 ht h C l0 (s:={s with heap:=hx.push (fO 0 j),toks:=tx}) ((Rx.pick he (fun U U h=>h) ok).newI (fO 0 j) rfl) (.head _) fun h' tk m' imm' cs' R' l' x'=>?_);refine k h' tk m' imm' cs' _ R' l' (fun p hp=>x' p (.tail _ (xx.i p hp)) fun e=>?_) .next;have:=Heap.lt_size (Rx.N p (bq _ (xx.i p hp))).1;rw[e] at this;exact Nat.lt_irrefl _ this
end
end
end
section
section
noncomputable def nh(x:AV):Bool:=match x with|.none=>true|.bool _=>true|.int _=>true|.str _=>true|_=>false
section
variable {Γ:ar}{imm imm':List (Addr×Obj)}{ρ ρ':List Addr}
theorem VR.pl(hx:nh x=true)(h:VR Γ imm ρ v x):VR Γ imm' ρ' v x:=by
 induction x using AV.casesOn with
 |none=>exact h.inv▸.none
 |bool b=>exact h.inv▸.bool b
 |int l=>obtain⟨t,rfl⟩:=h.inv;exact .int rfl
 |str s=>obtain⟨t,rfl,a,b⟩:=h.inv;exact .str rfl a b
 |_=>injection hx
theorem ao.pl{xs:List AV}(hx:xs.all nh=true):∀ {vs:List Value},ao Γ imm ρ vs xs→ao Γ imm' ρ' vs xs:=by
 induction xs with
 |nil=>exact fun h=>by obtain rfl:=h.inv;exact .nil
 |cons x r ih=>
  intro vs h;replace hx:=aB (show (nh x&&r.all nh)=true from hx);apply ir h.inv;intro _ _ e0 a b;subst e0;exact .cons (a.pl hx.1) (ih hx.2 b)
theorem Rz.frame{vs:List AV}(h1:vs.all nh=true)(h2:nh r=true)(H:Rz Γ n [] f vs r [])(σ:St):Rz Γ n σ f vs r σ:=⟨by
 intro c A s m ls imm cs vals kwv Rq C R hv hk hk2 k;obtain rfl:kwv=[]:=by cases kwv with|nil=>rfl|cons=>injection hk
 have nd:=R.nd;rw[List.map_append] at nd;apply d5 (List.nodup_append.mp nd);intro n1 n2 n3;have dis:∀ q∈imm,(((aL cs).map Prod.fst).contains q.1)=false:=fun q hq=>by
  cases e:((aL cs).map Prod.fst).contains q.1 with
  |false=>rfl
  |true=>exact absurd rfl (n3 q.1 (List.mem_map_of_mem hq) q.1 (List.contains_iff_mem.mp e))
 have R0:aj Γ c.h₀ c.L s.heap m [] [] (imm++aL cs) []:=⟨R.F,fun q hq=>R.N q ((af (imm++aL cs))▸hq),(af (imm++aL cs)).symm▸R.nd,.nil,fun U U hx=>by injection hx⟩;refine H.h (ls:=[]) C R0 (hv.pl h1) rfl .nil fun h' tk imm' cs' val R' x' hx=>?_;obtain rfl:cs'=[]:=List.eq_nil_of_length_eq_zero R'.C.len;have N':∀ q∈imm',h'.get? q.1=some q.2∧q.1≠c.L∧c.h₀.get? q.1=none:=fun q hq=>R'.N q (bq _ hq);have nd':(imm'.map Prod.fst).Nodup:=by have:=R'.nd;rw[show imm'++aL []=imm' from af _] at this;exact this
 have up:∀ p∈imm,p∈imm'.filter fun q=>!((aL cs).map Prod.fst).contains q.1:=fun p hp=>List.mem_filter.mpr ⟨x'.i p (bq _ hp),by rw[dis p hp];rfl⟩;refine k h' tk (imm'.filter fun q=>!((aL cs).map Prod.fst).contains q.1) cs val ⟨R'.F,fun q hq=>?_,?_,R.C.mono up fun U U h=>h,fun x v hx=>?_⟩ ⟨up,fun U U h=>h⟩ (hx.pl h2)
 ·rcases ey hq with a|a
  ·exact N' q (List.mem_filter.mp a).1
  ·exact N' q (x'.i q (cS _ a))
 ·rw[List.map_append]
  refine List.nodup_append.mpr ⟨nd'.sublist (List.filter_sublist.map _),n2,fun a ha b hb e=>?_⟩;apply ah (dm ha);intro q h3 e0;subst e0;have:=(List.mem_filter.mp h3).2;rw[e,List.contains_iff_mem.mpr hb] at this;injection this
 ·apply ah (R.l x v hx);intro val a b
  exact⟨val,a,b.mono up fun U U h=>h⟩⟩
end
end
end
section
section
noncomputable def u7(it:Addr)(i:Int)(old:Value):Obj:={cls:=.type "enumerate",dict:=none,data:=.fields #[.none,.bool false,.ref it,rawInt i,.none,old],slots:=#[]}
structure lO (imm:List (Addr×Obj)) (e it:Addr) (x:Str) (t:Tok) (ty:String) (i:Nat):Prop where
 k:ty="str_iterator"∨ty="str_ascii_iterator"
 le:i≤x.cps.size
 e:∃ old,(e,u7 it i old)∈imm
 s:∃ o,(it,o)∈imm∧o.cls=.type ty∧o.data=.fields #[.str x t,.int i 0]
section
variable {Γ:ar}{imm imm':List (Addr×Obj)}{e it:Addr}{x:Str}{tt:Tok}{ty:String}{i:Nat}
theorem lO.mono(h:lO imm e it x tt ty i)(u:∀ p∈imm,p∈imm'):lO imm' e it x tt ty i:=⟨h.k,h.le,h.e.elim fun o q=>⟨o,u _ q⟩,h.s.elim fun o q=>⟨o,u _ q.1,q.2⟩⟩
theorem lO.mov(h:lO imm e it x tt ty i):uf [e,it] imm:=fun I hI=>by
 apply bx h.e;intro o1 h1;apply dh h.s;intro o2 h2 h3 _;rcases bU hI with rfl|hI
 ·exact⟨_,h1,by dsimp only [da,u7];decide⟩
 ·rw[cH hI];exact⟨_,h2,wP h.k h3⟩
theorem H3{A:Around}(hh:A.handled=none)(h:ty="str_iterator"∨ty="str_ascii_iterator"):Draws Γ.prog Γ.w A.in1 it [it] x.cps.size (fun i v=>∃ c u,x.cps[i]?=some c∧v=.str ⟨#[c]⟩ u) (fun i h=>h.IsStrIter it ty x tt i):=by
 rcases h with rfl|rfl
 ·exact Draws.strWide (A:=A.in1) hh it x tt
 ·exact Draws.strAscii (A:=A.in1) hh it x tt
theorem aj.fresh(R:aj Γ h₀ L h m ls σ imm cs)(ha:h.objs.size≤a):a≠L∧h₀.get? a=none∧a ∉ (imm++aL cs).map Prod.fst:=by
 apply mC R.F.ns;intro oL _ _ hL _;refine⟨Nat.ne_of_gt (Nat.lt_of_lt_of_le (Heap.lt_size hL) ha),?_,fun q=>Nat.not_le_of_gt (R.lt q) ha⟩;cases hq:h₀.get? a with
 |none=>rfl
 |some o=>exact absurd (Heap.lt_size (R.F.keep _ _ hq)) (Nat.not_lt_of_ge ha)
end
section
variable {Γ:ar}{n:Nat}
inductive Fe (Γ:ar) (n:Nat) (t:Expr) (b:List Stmt):Nat→List Nat→ac→St→Fl→ac→St→Prop
 |stop {i:Nat} {ls:ac} {σ:St}:Fe Γ n t b i [] ls σ .next ls σ
 |step {i c:Nat} {r:List Nat} {ls ls0 ls1 ls2:ac} {σ σ0 σ1 σ2:St} {f:Fl}:Az Γ n t (.tup [.int (.k (.ofNat i)),.str [.lit [c]]]) ls σ ls0 σ0→aQ Γ n b ls0 σ0 .next ls1 σ1→Fe Γ n t b (i+1) r ls1 σ1 f ls2 σ2→Fe Γ n t b i (c::r) ls σ f ls2 σ2
 |ret {i c:Nat} {r:List Nat} {x:AV} {ls ls0 ls1:ac} {σ σ0 σ1:St}:Az Γ n t (.tup [.int (.k (.ofNat i)),.str [.lit [c]]]) ls σ ls0 σ0→aQ Γ n b ls0 σ0 (.ret x) ls1 σ1→Fe Γ n t b i (c::r) ls σ (.ret x) ls1 σ1
theorem EH{s:Shared}
  {Q:Value→Shared→Prop} {Nn:Shared→Prop} {E E2:Value→Shared→Prop} (C:bp Γ c0 A n) (R:aj Γ c0.h₀ c0.L s.heap m ls σ imm cs) (en:lO imm e it x tt ty i) (hr:x.cps.toList.drop i=c::r)
  (k:∀ h' tk imm' val,aj Γ c0.h₀ c0.L h' m ls σ imm' cs→(∀ q∈imm,q.1 ∉ [e,it]→q∈imm')→lO imm' e it x tt ty (i+1)→VR Γ imm' (ae cs) val (.tup [.int (.k (.ofNat i)),.str [.lit [c]]])→Q val {s with heap:=h',toks:=tk}) :
  wpAny (model Γ.prog Γ.w) A (pyNext (.ref e)) (fun r s1=>match r with|none=>Nn s1|some val=>wpAny (model Γ.prog Γ.w) A (letOwnedTupleGo (.Tuple es q1 q2) (.ref e) val) (fun U s2=>Q val s2) E2 s1) E s:=by
 apply bx en.e;intro old he;apply dh en.s;intro o ho h1 h2;have Ne:=R.N _ (bq _ he);have No:=R.N _ (bq _ ho);have hne:e≠it:=fun q=>by
  subst q;have z:u7 e i old=o:=osI (Ne.1.symm.trans No.1);rw[←z] at h1;rcases en.k with rfl|rfl<;>exact absurd h1 (by simp [u7])
 have hlt:i<x.cps.size:=by
  have:(x.cps.toList.drop i).length≠0:=by rw[hr];exact Nat.succ_ne_zero _
  rw[List.length_drop,Array.length_toList] at this;lia
 have hc:x.cps[i]?=some c:=by
  have:=congrArg List.head? hr;rw[List.head?_drop,Array.getElem?_toList] at this;exact this
 have lte:=Heap.lt_size Ne.1;have lti:=Heap.lt_size No.1;refine wpAny_pyNext_enum_itemD (H3 (Γ:=Γ) C.hd en.k) Ne.1 ⟨o,No.1,h1,h2⟩ hlt hne (fun q=>hne (cH q)) fun xv h' tk hP hout hst htup hsz hkeep=>?_;refine wpAny_letOwnedTupleGo_enum (s:={s with heap:=h',toks:=tk+1}) hout fun h3 he3 hs3=>?_;apply tT hP;intro c' u hc' e0;subst e0;rw[hc] at hc';obtain rfl:=osI hc';replace hs3:Heap.SameBut e h' h3:=hs3;have ne_of:∀ {b},b≠e→h3.get? b=h'.get? b:=fun hb=>hs3.2 _ hb;have frT:=R.fresh (Nat.le_refl s.heap.objs.size);have R1:aj Γ c0.h₀ c0.L h3 m ls σ (ju [e,it] imm) cs:=R.dropIters en.mov fun b y hb hy=>(ne_of fun q=>hb (q▸.head _)).trans (hkeep b y (fun q=>hb (q▸.head _)) (fun q=>hb (q▸.tail _ (.head _))) hy);apply dh hst;intro o2 g1 g2 g3;have R2:=R1.addI ((ne_of hne.symm).trans g1) No.2.1 No.2.2 (R.gone ho (.tail _ (.head _)));have R3:=R2.addI he3 Ne.2.1 Ne.2.2 fun q=>by
  rcases bU q with q|q
  ·exact hne q
  ·exact R.gone he (.head _) q
 have R4:=R3.addI ((ne_of (Nat.ne_of_gt lte)).trans htup) frT.1 frT.2.1 fun q=>by
  rcases bU q with q|q
  ·exact Nat.ne_of_gt lte q
  ·rcases bU q with q|q
   ·exact Nat.ne_of_gt lti q
   ·refine frT.2.2 ?_
    replace q:_∈(ju [e,it] imm++aL cs).map Prod.fst:=q;rw[List.map_append] at q ⊢;refine List.mem_append.mpr ((ey q).imp (fun q=>?_) id);apply ah (dm q);intro p p1 p2;exact p2▸List.mem_map_of_mem (gC.mp p1).1
 refine k h3 _ _ _ R4 (fun q hq hn=>.tail _ (.tail _ (.tail _ (gC.mpr ⟨hq,hn⟩)))) ⟨en.k,hlt,⟨_,.tail _ (.head _)⟩,⟨o2,.tail _ (.tail _ (.head _)),g2,g3⟩⟩ ?_;exact .tup (vs:=[.int i tk,.str ⟨#[c]⟩ u]) (.inl (.head _)) (.cons (.int (bV _).symm) (.cons (.str rfl (gG [c]) (show 1≤16777216 by decide)) .nil))
theorem Pn{s:Shared}{Q:Option Value→Shared→Prop}{E:Value→Shared→Prop}
  (C:bp Γ c0 A n) (R:aj Γ c0.h₀ c0.L s.heap m ls σ imm cs) (en:lO imm e it x tt ty i) (hr:x.cps.toList.drop i=[])
  (k:∀ h' imm',aj Γ c0.h₀ c0.L h' m ls σ imm' cs→(∀ q∈imm,q.1 ∉ [e,it]→q∈imm')→Q none {s with heap:=h'}):wpAny (model Γ.prog Γ.w) A (pyNext (.ref e)) Q E s:=by
 apply bx en.e;intro old he;apply dh en.s;intro o ho h1 h2;have hi:i=x.cps.size:=by
  have:=List.drop_eq_nil_iff.mp hr;rw[Array.length_toList] at this;exact Nat.le_antisymm en.le this
 subst hi;refine wpAny_pyNext_enum_endD (H3 (Γ:=Γ) C.hd en.k) (R.N _ (bq _ he)).1 ⟨o,(R.N _ (bq _ ho)).1,h1,h2⟩ fun h' hx=>?_;exact k h' _ (R.dropIter ho (wP en.k h1) hx) fun q hq hn=>gC.mpr ⟨hq,fun z=>hn (.tail _ z)⟩
theorem Fe.ok(h:Fe Γ n (.Tuple es q1 q2) b i r ls σ f ls' σ'):∀ {c A s m imm cs e it x tt ty} {Rq:Result→Shared→Prop},bp Γ c A n→cK c ls→aj Γ c.h₀ c.L s.heap m ls.v σ imm cs→lO imm e it x tt ty i→x.cps.toList.drop i=r →
  (∀ h' tk m' imm' cs' fl,aj Γ c.h₀ c.L h' m' ls'.v σ' imm' cs'→cK c ls'→(∀ q∈imm,q.1 ∉ [e,it]→q∈imm')→(∀ k a,ak (ae cs) k=some a→ak (ae cs') k=some a)→FR Γ imm' cs' fl f→Rq (.ok fl) {s with heap:=h',toks:=tk}) →
  codeAny (model Γ.prog Γ.w) A (.forLoop (.Tuple es q1 q2) (.ref e) b [] c.env) Rq s:=by
 have nx:∀ {x:Str} {i c:Nat} {r:List Nat},x.cps.toList.drop i=c::r→x.cps.toList.drop (i+1)=r:=fun {x i c r} hr=>by
  rw[←List.drop_drop,hr];rfl
 induction h with
 |stop=>
  intro c A s m imm cs e it x tt ty Rq C l R en hr k;exact lc (Pn C R en hr fun h' imm' R' x'=>wpAny_execs_nil (k h' _ m imm' cs _ R' l x' (fun U U h=>h) .next))
 |step h1 h2 _ ih=>
  intro c A s m imm cs e it x tt ty Rq C l R en hr k;refine lc (EH C R en hr fun h' tk imm' val R' x' en' hv=>?_);refine h1.h C l (s:={s with heap:=h',toks:=tk}) R' hv fun ha ta ma ia ca Ra la xa=>?_;refine h2.h C la (s:={s with heap:=ha,toks:=ta}) Ra fun hz tz mz iz cz fl Rz lz xz fz=>?_;have xt:aH imm' cs iz cz:=xa.trans xz;(obtain e:_=_:=FR.inv fz;subst e);exact ih C lz (s:={s with heap:=hz,toks:=tz}) Rz (en'.mono xt.i) (nx hr) fun h2 t2 m2 i2 c2 fl R2 l2 x2 y2 f2=>k h2 t2 m2 i2 c2 fl R2 l2 (fun q hq hn=>x2 q (xt.i q (x' q hq hn)) hn) (fun k a h=>y2 k a (xt.r k a h)) f2
 |ret h1 h2=>
  intro c A s m imm cs e it x tt ty Rq C l R en hr k;refine lc (EH C R en hr fun h' tk imm' val R' x' en' hv=>?_);refine h1.h C l (s:={s with heap:=h',toks:=tk}) R' hv fun ha ta ma ia ca Ra la xa=>?_;refine h2.h C la (s:={s with heap:=ha,toks:=ta}) Ra fun hz tz mz iz cz fl Rz lz xz fz=>?_;have xt:aH imm' cs iz cz:=xa.trans xz;obtain⟨_,e0,hv2⟩:=FR.inv fz;clear fz;subst e0;exact k hz tz mz iz cz _ Rz lz (fun q hq hn=>xt.i q (x' q hq hn)) xt.r (.ret hv2)
theorem Dz.forE(I:bW Γ n R)(h1:R.ev ls σ (.Name x xq)=some (.bi .enum,σ))(h2:R.evs ls σ as=some ([.str s0],σ))(h3:R.evk ls σ []=some ([],σ))
  (h:Fe Γ n (.Tuple es q1 q2) b 0 (s0.val Γ.ε) ls σ f ls' σ'):kg Γ n (.For (.Tuple es q1 q2) (.Call (.Name x xq) as [] cp) b [] pos) ls σ f ls' σ':=⟨by
 intro c A s m imm cs Q E C l Rp k;show wpAny _ _ (exec (.For (.Tuple es q1 q2) (.Call (.Name x xq) as [] cp) b [] pos) c.env) _ _ _;rw[exec_For];refine wpAny_bind (wpAny_standAt (wpAny_bind ?_));refine wpAny_Call_Name_kw (I.ev h1 C l Rp fun hx tx ix cx fval Rx xx qx=>?_);refine xJ I h2 h3 (s:={s with heap:=hx,toks:=tx}) C l Rx (fun h X hi=>?_) ?_
 ·(obtain e:_=_:=VR.inv qx;subst e);exact⟨.machine,.inr (.inl rfl),.of_pure rfl⟩
 intro h' tk imm' cs' vals kwv R' x' v1 v2 v3;obtain rfl:=mH v2 rfl;(obtain e:_=_:=VR.inv qx;subst e);apply ah v1.one;intro val e0 hv1;subst e0;apply dh hv1.inv;intro tt e0 _ _;subst e0;refine call_enumerate_str (s:={s with heap:=h',toks:=tk}) fun h4 he hit hsz hkeep=>?_;replace hsz:h4.objs.size=h'.objs.size+2:=hsz;have f1:=R'.fresh (Nat.le_refl h'.objs.size);have f2:=R'.fresh (Nat.le_succ h'.objs.size);apply dh hit;intro o2 g1 g2 g3;have wi:∀ {imm:List (Addr×Obj)} {q},q∈imm→q∈ju [] imm:=fun hq=>gC.mpr ⟨hq,nofun⟩;have wo:∀ {a:Addr},a ∉ (imm'++aL cs').map Prod.fst→a ∉ (ju [] imm'++aL cs').map Prod.fst:=fun hn hq=>by
  refine hn ?_;rw[List.map_append] at hq ⊢;refine List.mem_append.mpr ((ey hq).imp (fun q=>?_) id);apply ah (dm q);intro p p1 p2;exact p2▸List.mem_map_of_mem (gC.mp p1).1
 have R1:=((R'.dropIters (S:=[]) nofun fun b y U hy=>hkeep b y hy).addI g1 f1.1 f1.2.1 (wo f1.2.2)).addI he f2.1 f2.2.1 fun q=>by
  rcases bU q with q|q
  ·exact Nat.succ_ne_self _ q
  ·exact wo f2.2.2 q
 show wpAny _ _ (foldedSetIterable (.Call (.Name x xq) as [] cp) c.env _ >>= _) _ _ _;refine wpAny_bind (wpAny_pure (wpAny_bind (wpAny_standAt (wpAny_bind (wpAny_holding ?_)))));refine wpAny_pyIter_enum he ?_;have xa:aH imm cs imm' cs':=xx.trans x';refine wpAny_runOwn (h.ok C l (s:={s with heap:=h4,toks:=tk}) R1 (x:=aG (s0.val Γ.ε)) (ty:=strIterType (aG (s0.val Γ.ε))) ⟨?_,Nat.zero_le _,⟨_,.head _⟩,⟨o2,.tail _ (.head _),g2,g3⟩⟩ rfl fun h2 t2 m2 i2 c2 fl R2 l2 x2 y2 f3=>?_)
 ·unfold strIterType
  cases (aG (s0.val Γ.ε)).cps.all (·<128)
  ·exact .inl rfl
  ·exact .inr rfl
 ·refine k h2 t2 m2 i2 c2 fl R2 l2 ⟨fun q hq=>x2 q (.tail _ (.tail _ (wi (xa.i q hq)))) fun z=>?_,fun k a h=>y2 k a (xa.r k a h)⟩ f3
  have:=R'.lt (List.mem_map_of_mem (bq _ (xa.i q hq)));rcases bU z with z|z
  ·rw[z] at this;exact Nat.lt_irrefl _ (Nat.lt_of_succ_lt this)
  ·rw[cH z] at this;exact Nat.lt_irrefl _ this⟩
end
end
end
section
def jH:List Stmt:=(cM 810).body
def gy:List (Str×NameKind):=(cM 810).sc
structure EB where
 es:List Expr
 q1:Nat
 q2:Pos
 x:Str
 xq:Pos
 as:List Expr
 cp:Pos
 b:List Stmt
 p:Pos
def Qq(l:List Stmt)(i:Nat):EB:=match ak l i with|some (.For (.Tuple es q1 q2) (.Call (.Name x xq) as _ cp) b _ p)=>⟨es,q1,q2,x,xq,as,cp,b,p⟩|_=>⟨[],0,default,n0,default,[],default,[],default⟩
def fq:EB:=Qq jH 1
def we:Expr:=.Tuple fq.es fq.q1 fq.q2
theorem QS:jH=aP 1 jH++(.For (.Tuple fq.es fq.q1 fq.q2) (.Call (.Name fq.x fq.xq) fq.as [] fq.cp) fq.b [] fq.p::bk 2 jH):=by kernel_rfl
theorem LR:eD 810 gL=some (cM 810):=by kernel_rfl
noncomputable def βm:Bd:=[(0,0),(0,0),(0,0),(0,0),(0,0),(0,400),(0,0),(0,400)]
def pL(v wide:AV):List (Str×AV):=[(cT,v),(lg,wide)]
def kP(a s:AV):List (Str×AV):=[(Lv,a),(jb,s)]
def wI(v:AV)(ss:List Stmt)(f:Fl):bO:=⟨βm,bj,3,[],⟨pL v (.any 21),gy⟩,[],ss,f,2,pL v (.any 21),[]⟩
def jO(b:Bool):Fl:=Bool.rec (.ret ff) .next b
def wZ(v w a:AV)(c:Nat)(b:Bool):bO:=⟨βm,bj,3,[],⟨pL v w++kP a (.str [.lit [c]]),gy⟩,[],fq.b,jO b,4,pL v w++kP a (.str [.lit [c]]),[]⟩
theorem Lr:((wI (.str []) (aP 1 jH) (.ret ff)).chk&&(aZ.all fun e=>(wI (.str [.var 2,.lit [e]]) (aP 1 jH) (jO (!(Nat.beq e 32)))).chk))=true:=by kernel_rfl
theorem O7:(tf.all fun u=>aZ.all fun c=>Bool.rec (wZ (.any 20) (.bool u) (.any 22) c (kQ u c)).chk (aZ.all fun d=>(wZ (.str [.var 2,.lit [32,d],.var 3]) (.bool u) (.int (V 5)) 32 (!(aC d))).chk) (Nat.beq c 32))=true:=by kernel_rfl
end
section
section
def εm(P:Params)(a b:List Nat):Ev:=dz P (fun U=>0) (tn [] [[],[],a,b])
def iP(v:List Nat)(u:Bool):List (Str×AV):=pL (.str (.k v)) (.bool u)
theorem Dz.appRet(h:aQ Γ n a ls σ (.ret v) ls1 σ1):aQ Γ n (a++b) ls σ (.ret v) ls1 σ1:=⟨by
 intro c A s m imm cs Q E C l R k;show wpAny _ _ (execs (a++b) c.env) _ _ _;rw[zI];refine wpAny_bind (h.h C l R fun hx tx mx ix cx fl Rx lx xx fx=>?_);apply ah (FR.inv fx);intro _ e0 hv;subst e0;exact wpAny_pure (k hx tx mx ix cx _ Rx lx xx fx)⟩
theorem DV(u:Bool)(c:Nat)(r:List Nat):dT u (c::r)=(!(Nat.beq c 32&&(aF r ||mu r))&&(kQ u c&&dT u r)):=rfl
section
variable {w:World}{mg mb:Str→Option Value}{ε0:Ev}{u:Bool}{v:List Nat}
theorem wc{a b:List Nat}(h1:a.length≤400)(h2:b.length≤400)(P:Params):aM βm (εm P a b):=gx (by
 have e0:(0:Int)≤0∧(0:Int)≤0:=⟨bz _,bz _⟩;exact⟨e0,e0,e0,e0,e0,⟨bK _,eP h1⟩,e0,⟨bK _,eP h2⟩,trivial⟩)
variable (hw:ε0.P=w.params)(he:ε0.Ok)
include hw
theorem LN(hv:v=pre++c::r)(ha:∀ d∈v,d∈aZ)(hl:v.length≤400)(hr:c=32→r≠[]) :
  aQ (ab w mg mb ε0) 150 fq.b ⟨iP v u++kP (.int (.k (.ofNat pre.length))) (bZ c),gy⟩ [] (jO (!(Nat.beq c 32&&(aF r ||mu r))&&kQ u c)) ⟨iP v u++kP (.int (.k (.ofNat pre.length))) (bZ c),gy⟩ []:=by
 have hj:=aq (aq O7 u (cU u)) c (ha c (hv▸cS _ (.head _)));cases q:Nat.beq c 32 with
 |false=>
  rw[q] at hj;refine(ck (v:=(fun i=>tn (.int (.k (.ofNat pre.length))) [.str (.k v)] (i-20))) (z:=.any) hw (ε:=εm ε0.P [] []) rfl (bM _ _ _) (wZ (.any 20) (.bool u) (.any 22) c (kQ u c)) (wc (Nat.zero_le _) (Nat.zero_le _) _) ⟨rfl,(by decide:3≤12),rfl⟩ hj).cast rfl rfl ?_ rfl rfl;show fF _ (jO (kQ u c))=jO (kQ u c);cases kQ u c<;>rfl
 |true=>
  obtain rfl:=bX q;obtain⟨d,r,rfl⟩ : ∃ d r',r=d::r':=by cases r with|nil=>exact absurd rfl (hr rfl)|cons d r=>exact⟨d,r,rfl⟩
  have hd:=aq hj d (ha d (hv▸cS _ (.tail _ (.head _))));have ll:pre.length+(r.length+2)=v.length:=by rw[hv,ax];rfl
  refine(ck (v:=fun U=>.none) (z:=.any) hw (ε:=εm ε0.P pre r) rfl (bM _ _ _) (wZ (.str [.var 2,.lit [32,d],.var 3]) (.bool u) (.int (V 5)) 32 (!(aC d))) (wc (by lia) (by lia) _) ⟨rfl,(by decide:3≤12),rfl⟩ hd).cast ?_ rfl ?_ ?_ rfl
  all_goals first
   |(show (⟨pL (.str (.k (pre++([32,d]++(r++[]))))) (.bool u)++kP (.int (.k ((V 5).val _))) (.str (.k ([32]++[]))),gy⟩ : ac)=_;rw[af,bQ,hv];rfl)
   |(show fF _ (jO (!(aC d)))=jO (!(true&&(false ||aC d))&&true);cases aC d<;>rfl)
include he
theorem Oj:∀ (r pre:List Nat) (o:List (Str×AV)),(o=[]∨∃ a b,o=kP a b)→v=pre++r→(∀ d∈v,d∈aZ)→v.length≤400→(∀ m,v≠m++[32]) →
  ∃ L,Fe (ab w mg mb ε0) 150 we fq.b pre.length r ⟨iP v u++o,gy⟩ [] (jO (dT u r)) L []:=by
 intro L0;induction L0 with
 |nil=>
  intro pre o _ _ _ _ _;exact⟨_,.stop⟩
 |cons c r ih=>
  intro pre o ho hv ha hl h32;have as:Az (ab w mg mb ε0) 150 we (.tup [.int (.k (.ofNat pre.length)),.str [.lit [c]]]) ⟨iP v u++o,gy⟩ [] ⟨iP v u++kP (.int (.k (.ofNat pre.length))) (bZ c),gy⟩ []:=by
   rcases ho with rfl|⟨a,b,rfl⟩
   ·exact j6 hw he (show (cX [] bj 0).asg ⟨iP v u++[],gy⟩ [] (.tup [.int (.k (.ofNat pre.length)),bZ c]) we=some (⟨iP v u++kP (.int (.k (.ofNat pre.length))) (bZ c),gy⟩,[]) by kernel_rfl)
   ·exact j6 hw he (show (cX [] bj 0).asg ⟨iP v u++kP a b,gy⟩ [] (.tup [.int (.k (.ofNat pre.length)),bZ c]) we=some (⟨iP v u++kP (.int (.k (.ofNat pre.length))) (bZ c),gy⟩,[]) by kernel_rfl)
  have D:=LN (mg:=mg) (mb:=mb) (u:=u) hw hv ha hl fun e q=>h32 pre (by rw[hv,e,q]);have e2:dT u (c::r)=((!(Nat.beq c 32&&(aF r ||mu r))&&kQ u c)&&dT u r):=by rw[DV,Bool.and_assoc]
  rw[e2];cases q:(!(Nat.beq c 32&&(aF r ||mu r))&&kQ u c) with
  |false=>rw[q] at D;exact⟨_,.ret as D⟩
  |true=>
   rw[q] at D;obtain⟨L,F⟩:=ih (pre++[c]) _ (.inr ⟨_,_,rfl⟩) (by rw[hv,aX];rfl) ha hl h32;rw[ax] at F;exact⟨L,.step as D F⟩
theorem EE(ha:∀ d∈v,d∈aZ)(hl:v.length≤400):fnIn (cE w.params) 810=true∧Rz (ab w mg mb ε0) 155 [] 810 [.str (.k v),.bool u] (.bool (!aF v&&dT u v)) []:=by
 have ok:=aB Lr;have body:∃ L,aQ (ab w mg mb ε0) 150 (cM 810).body ⟨iP v u,gy⟩ [] (.ret (.bool (!aF v&&dT u v))) L []:=by
  rw[show (cM 810).body=jH from rfl,QS]
  by_cases hn:v=[]
  ·subst hn
   exact⟨_,(ck (v:=fun U=>.bool u) (z:=.any) hw (ε:=εm ε0.P [] []) rfl (bM _ _ _) (wI (.str []) (aP 1 jH) (.ret ff)) (wc (Nat.zero_le _) (Nat.zero_le _) _) ⟨rfl,(by decide:3≤12),rfl⟩ ok.1).appRet⟩
  ·obtain⟨m,e,rfl⟩ : ∃ m e,v=m++[e]:=⟨v.dropLast,v.getLast hn,(List.dropLast_concat_getLast hn).symm⟩
   have he':=aq ok.2 e (ha e (cS _ (.head _)));have lm:m.length≤400:=by rw[ax] at hl;lia
   have nn:aF (m++[e])=false:=by cases m<;>rfl
   have D:aQ (ab w mg mb ε0) 150 (aP 1 jH) ⟨iP (m++[e]) u,gy⟩ [] (jO (!(Nat.beq e 32))) ⟨iP (m++[e]) u,gy⟩ []:=by
    refine(ck (v:=fun U=>.bool u) (z:=.any) hw (ε:=εm ε0.P m []) rfl (bM _ _ _) (wI (.str [.var 2,.lit [e]]) (aP 1 jH) (jO (!(Nat.beq e 32)))) (wc lm (Nat.zero_le _) _) ⟨rfl,(by decide:3≤12),rfl⟩ he').cast rfl rfl ?_ rfl rfl;show fF _ (jO (!(Nat.beq e 32)))=_;cases Nat.beq e 32<;>rfl
   rw[nn];cases q:Nat.beq e 32 with
   |true=>
    obtain rfl:=bX q;have:dT u (m++[32])=false:=by
     clear D nn ha hl he' hn q lm;induction m with
     |nil=>rfl
     |cons a r ih=>rw[List.cons_append,DV,ih,Bool.and_false,Bool.and_false]
    rw[this];exact⟨_,D.appRet⟩
   |false=>
    rw[q] at D;obtain⟨L,F⟩:=Oj (v:=m++[e]) hw he (m++[e]) [] [] (.inl rfl) rfl ha hl fun m2 h=>by
     have:=List.append_inj_right' h rfl;rw[List.cons.inj this |>.1] at q;injection q
    rw[af] at F;have I:bW (ab w mg mb ε0) 150 (cX [] bj 12):=(gu (mZ hw he) 300 12).E;have FF:=Dz.forE (pos:=fq.p) (cp:=fq.cp) (xq:=fq.xq) (x:=fq.x) (as:=fq.as) (s0:=.k (m++[e])) I (ls:=⟨iP (m++[e]) u,gy⟩) (σ:=[]) (by kernel_rfl) (by kernel_rfl) (by kernel_rfl) (by rw[db];exact F);cases q2:dT u (m++[e]) with
    |false=>rw[q2] at FF;exact⟨_,D.append FF.ret⟩
    |true=>
     rw[q2] at FF;exact⟨_,D.append (FF.cons (yE (d:=3) hw he (by decide) (show (cX [] bj 3).exs L [] (bk 2 jH)=some (.ret tr,L,[]) by kernel_rfl)))⟩
 apply bx body;intro L B;exact pU hw he LR (by kernel_rfl) B rfl
end
end
end
section
structure uj where
 P:Option St
 f:Addr
 vs:List AV
 r:AV
def xh(P:Option St)(σ:St):Bool:=Option.rec true (lG σ) P
def kB(l:List uj):pr:=fun σ f vs=>List.rec none (fun q U ih=>Bool.rec ih (some (q.r,σ)) (Nat.beq q.f f&&(fU cZ vs q.vs&&xh q.P σ))) l
noncomputable def ze(Γ:ar)(n:Nat)(q:uj):Prop:=fnIn Γ.K q.f=true∧∀ σ,xh q.P σ=true→Rz Γ n σ q.f q.vs q.r σ
theorem wy(h:∀ q∈l,ze Γ (b+25) q):ja Γ b (kB l) :=
 fun σ f vs p hp=>by
  induction l with
  |nil=>injection hp
  |cons q r ih=>
   replace hp:Bool.rec (motive:=fun U=>Option (AV×St)) (kB r σ f vs) (some (q.r,σ)) (Nat.beq q.f f&&(fU cZ vs q.vs&&xh q.P σ))=some p:=hp;cases e:(Nat.beq q.f f&&(fU cZ vs q.vs&&xh q.P σ)) with
   |false=>rw[e] at hp;exact ih (fun x hx=>h x (.tail _ hx)) hp
   |true=>
    rw[e] at hp;obtain rfl:=(osI hp).symm;replace e:=aB e;have e2:=aB e.2;obtain rfl:=bX e.1;obtain rfl:vs=q.vs:=il (f:=cZ) (fun x U y e=>fD x y e) e2.1;apply aN (h q (.head _));intro h1 h2;exact⟨h1,(h2 σ e2.2).h⟩
theorem Rz.unz{Γ:ar}(he:Γ.ε.Ok)(hb:aM β Γ.ε)(g:m7 β (lv r++fX P')=true)(H:Rz Γ n (bC (aW Γ.ε) P) f (aO (aW Γ.ε) vs) (flA (aW Γ.ε) r) (bC (aW Γ.ε) P')):Rz Γ n P f vs r P':=⟨cF.unz he hb g H⟩
theorem rQ{Γ:ar}(he:Γ.ε.Ok)(hb:aM β Γ.ε){vs:List AV}(h1:vs.all nh=true)(h2:nh r=true)(g:m7 β (lv r)=true)(hf:fnIn Γ.K f=true)(H:Rz Γ n [] f (aO (aW Γ.ε) vs) (flA (aW Γ.ε) r) []):ze Γ n ⟨none,f,vs,r⟩ :=
 ⟨hf,fun σ U=>Rz.frame h1 h2 (Rz.unz he hb (by rw[show fX []=[] from rfl,af];exact g) H) σ⟩
noncomputable abbrev l7:=List (Bool×List Nat)
def tW(i:Nat)(b:Bool):SS:=Bool.rec [] [.var i] b
noncomputable def oC:Nat→l7→List AV
 |_,[]=>[]
 |i,q::r=>.tup [.str (tW i q.1),.str (.k q.2)]::oC (i+1) r
noncomputable def lF:Nat→l7→SS
 |_,[]=>[]
 |i,q::r=>(tW i q.1).app ((SS.k q.2).app (lF (i+1) r))
noncomputable def pQ:Nat→l7→SS
 |_,[]=>[]
 |i,q::r=>SS.app (Bool.rec [] [.rep 32 (V 14),.var i] q.1) (SS.app (Bool.rec (Bool.rec [] [.var 3] (q.1 ||co q.2 [10])) [.lit [8232]] (co q.2 [8232])) (pQ (i+1) r))
noncomputable def wK(k:Nat):l7:=List.replicate k (false,[10])
noncomputable def yZ:Nat→List l7
 |0=>[[]]
 |n+1=>(yZ n).flatMap fun s=>tf.flatMap fun b=>[[10],[8232]].map fun e=>(b,e)::s
noncomputable def AT:List l7:=[0,1,2,3].map wK++[0,1,2].flatMap fun n=>(yZ n).flatMap fun s=>tf.flatMap fun b=>(s++[(b,[])])::[0,1,2].map fun k=>s++(b,[10])::wK k
noncomputable def βN:Bd:=[(0,0),(1,20),(0,0),(1,20),(0,0),(1,20),(0,0),(1,2),(0,0),(0,400),(0,0),(0,2),(2,9),(0,0),(2,20)]
def Hw(S:l7)(u st:Bool):List uj:=[⟨none,810,[.str (lF 0 S),.bool u],.bool st⟩,⟨none,817,[.str (lF 0 S),.bool u],.str [.var 4]⟩]++Bool.rec [] [⟨none,824,[.str (lF 0 S),.int (V 12)],.str [.var 5]⟩] st
def AQ(S:l7)(u st:Bool):kN:=⟨βN,kB (Hw S u st),3,[],[.any 0,.any 1,.any 2,.list (oC 0 S)],829,[.cell 3,.int (V 12),.int (V 14),.bool u,.str [.var 3]],.str (Bool.rec [.var 4,.var 3] (.lit [124]::.var 5::.var 3::pQ 0 S) st),[.any 0,.any 1,.any 2,.list (oC 0 S)]⟩
theorem MF:(AT.all fun S=>tf.all fun u=>tf.all fun st=>(aF (lF 0 S)&&st) ||(AQ S u st).chk)=true:=by kernel_rfl
end
section
section
noncomputable abbrev bN:=List (List Nat×List Nat)
def ew(ps:bN):l7:=ps.map fun p=>(!aF p.1,p.2)
noncomputable def dk(ps:bN):List AV:=ps.map fun p=>.tup [.str (.k p.1),.str (.k p.2)]
noncomputable def au(ps:bN):List Nat:=ps.flatMap fun p=>p.1++p.2
noncomputable def lu(nl:List Nat)(ind:Int):bN→List Nat
 |[]=>[]
 |q::r=>Bool.rec [] (List.replicate ind.toNat 32++q.1) (!aF q.1)++(Bool.rec (Bool.rec [] nl (!aF q.1 ||co q.2 [10])) [8232] (co q.2 [8232])++lu nl ind r)
def bH(g:Gs)(ind:Int)(ps:bN):List Nat:=Bool.rec (gj g.u (au ps)++g.nl) (124::(cI g.best (au ps)++(g.nl++lu g.nl ind ps))) (aD g (au ps))
structure uR (ps:bN):Prop where
 s:ew ps∈AT
 t:gF (au ps)
 r:∀ p∈ps,p.1.length≤20
 e:∀ j p,ak ps j=some p→3≤j→p.1=[]
section
variable {ε:Ev}{i:Nat}{v:Nat→AV}{z:Nat→aw}
theorem EA{p:List Nat×List Nat}(h:p.1≠[]→ε.sv i=p.1):(tW i (!aF p.1)).val ε=p.1:=by
 cases q:p.1 with
 |nil=>rfl
 |cons a r=>show ε.sv i++[]=_;rw[h (by rw[q];exact List.cons_ne_nil _ _),af,q]
theorem xU{α:Type}{ps:List α}{q:α}{P:Nat→α→Prop}(h:∀ j p,ak (q::ps) j=some p→P (i+j) p):P i q∧∀ j p,ak ps j=some p→P (i+1+j) p :=
 ⟨h 0 q rfl,fun j p hp=>by rw[show i+1+j=i+(j+1) by lia];exact h (j+1) p hp⟩
theorem RZ:∀ {ps:bN} {i:Nat},(∀ j p,ak ps j=some p→p.1≠[]→ε.sv (i+j)=p.1)→aO (ai ε v z) (oC i (ew ps))=dk ps:=by
 intro L0;induction L0 with
 |nil=>
  intro _ _;exact rfl
 |cons q ps ih=>
  intro i h;apply aN (xU (P:=fun j (p:List Nat×List Nat)=>p.1≠[]→ε.sv j=p.1) h);intro h1 h2;show AV.tup [.str (.k ((tW i (!aF q.1)).val ε)),.str (.k ((SS.k q.2).val ε))]::aO (ai ε v z) (oC (i+1) (ew ps))=_;rw[ih h2,EA h1,db];rfl
theorem Nw:∀ {ps:bN} {i:Nat},(∀ j p,ak ps j=some p→p.1≠[]→ε.sv (i+j)=p.1)→(lF i (ew ps)).val ε=au ps:=by
 intro L0;induction L0 with
 |nil=>
  intro _ _;exact rfl
 |cons q ps ih=>
  intro i h;apply aN (xU (P:=fun j (p:List Nat×List Nat)=>p.1≠[]→ε.sv j=p.1) h);intro h1 h2;show ((tW i (!aF q.1)).app ((SS.k q.2).app (lF (i+1) (ew ps)))).val ε=q.1++q.2++au ps;rw[fG,fG,ih h2,EA h1,db,aX]
theorem Ss{nl:List Nat}{ind:Int}(h3:ε.sv 3=nl)(h14:ε.iv 14=ind):∀ {ps:bN} {i:Nat},(∀ j p,ak ps j=some p→p.1≠[]→ε.sv (i+j)=p.1)→(pQ i (ew ps)).val ε=lu nl ind ps:=by
 intro L0;induction L0 with
 |nil=>
  intro _ _;exact rfl
 |cons q ps ih=>
  intro i h;apply aN (xU (P:=fun j (p:List Nat×List Nat)=>p.1≠[]→ε.sv j=p.1) h);intro h1 h2;show (SS.app (Bool.rec [] [.rep 32 (V 14),.var i] (!aF q.1)) (SS.app (Bool.rec (Bool.rec [] [.var 3] (!aF q.1 ||co q.2 [10])) [.lit [8232]] (co q.2 [8232])) (pQ (i+1) (ew ps)))).val ε=_;rw[fG,fG,ih h2];show _=Bool.rec [] (List.replicate ind.toNat 32++q.1) (!aF q.1)++(Bool.rec (Bool.rec [] nl (!aF q.1 ||co q.2 [10])) [8232] (co q.2 [8232])++lu nl ind ps)
  congr 1
  ·cases q0:q.1 with
   |nil=>rfl
   |cons a r=>
    show List.replicate ((V 14).val ε).toNat 32++(ε.sv i++[])=_;rw[bQ,h14,af,h1 (by rw[q0];exact List.cons_ne_nil _ _),q0];rfl
  ·congr 1
   cases co q.2 [8232] with
   |true=>rfl
   |false=>
    cases (!aF q.1 ||co q.2 [10]) with
    |false=>rfl
    |true=>show ε.sv 3++[]=nl;rw[h3,af]
end
def nz(ps:bN)(i:Nat):List Nat:=Option.rec [97] (fun p=>List.rec [97] (fun a r U=>a::r) p.1) (ak ps i)
def εN(P:Params)(ps:bN)(nl q h:List Nat)(best ind:Int):Ev:=dz P (tn 0 [0,0,0,0,0,0,best,ind]) (tn [] [nz ps 0,nz ps 1,nz ps 2,nl,q,h])
theorem Am(h:∀ p∈ps,p.1.length≤20)(i:Nat):(1:Int)≤(nz ps i).length∧((nz ps i).length:Int)≤20:=by
 unfold nz;cases q:ak ps i with
 |none=>exact⟨by decide,by decide⟩
 |some p=>
  rw[dH] at q;have:=h _ (List.mem_of_getElem? q);obtain⟨l,b⟩:=p;cases l with
  |nil=>show (1:Int)≤((1:Nat):Int)∧((1:Nat):Int)≤20;decide
  |cons a r=>
   show 1≤((r.length+1:Nat):Int)∧((r.length+1:Nat):Int)≤20;exact⟨by lia,eP this⟩
section
variable {w:World}{mg mb:Str→Option Value}{ε0:Ev}{g:Gs}{ps:bN}{z:Nat→aw}{ind:Int}
theorem K8(o:uR ps):∀ j p,ak ps j=some p→p.1≠[]→(εN P ps nl q h best ind).sv (0+j)=p.1:=fun j p hp hn=>by
 have key:∀ k,k=j→nz ps k=p.1:=fun k e=>by
  unfold nz;rw[e,hp];obtain⟨a,b⟩:=p;cases a with
  |nil=>exact absurd rfl hn
  |cons=>rfl
 rw[Nat.zero_add]
 match j,hp,key with
 |0,_,key=>exact key 0 rfl
 |1,_,key=>exact key 1 rfl
 |2,_,key=>exact key 2 rfl
 |j+3,hp,_=>exact absurd (o.e _ _ hp (by lia)) hn
set_option tactic.hygienic true in
theorem Ky(best:Nat)(v:List Nat):(cI best v).length≤2:=by
 unfold cI
 split
 ·exact Nat.zero_le _
 ·rename_i a r
  have:=xB best a;have:=x6 (a::r);rw[ax];lia
theorem Ag(u:Bool){v:List Nat}(h:v.length≤40):(gj u v).length≤400:=by
 have:=vL u v;unfold gj;rw[bb,ax];show _+1+1≤400;lia
theorem KG(hg:eX g)(o:uR ps)(hi:2≤ind∧ind≤20)(P:Params):aM βN (εN P ps g.nl (gj g.u (au ps)) (cI g.best (au ps)) g.best ind):=gx (by
 have e0:(0:Int)≤0∧(0:Int)≤0:=⟨bz _,bz _⟩;exact⟨e0,Am o.r 0,e0,Am o.r 1,e0,Am o.r 2,e0,⟨eP hg.nl.1,eP hg.nl.2⟩,e0,⟨bK _,eP (Ag _ o.t.len)⟩,e0,⟨bK _,eP (Ky _ _)⟩,je hg,e0,hi,trivial⟩)
theorem Kx(hw:ε0.P=w.params)(he:ε0.Ok)(hg:eX g)(o:uR ps)(hi:2≤ind∧ind≤20) :
  fnIn (cE w.params) 829=true∧Rz (ab w mg mb ε0) 185 [z 0,z 1,z 2,.list (dk ps)] 829 [.cell 3,I g.best,I ind,.bool g.u,.str (.k g.nl)] (.str (.k (bH g ind ps))) [z 0,z 1,z 2,.list (dk ps)]:=by
 have hj:=aq (aq (aq MF _ o.s) g.u (cU _)) (aD g (au ps)) (cU _);generalize hε:εN ε0.P ps g.nl (gj g.u (au ps)) (cI g.best (au ps)) g.best ind=ε at *
 have hsv:∀ j p,ak ps j=some p→p.1≠[]→ε.sv (0+j)=p.1:=by rw[←hε];exact K8 o
 have ht:=Nw (ε:=ε) hsv;have hok:ε.Ok:=by rw[←hε];exact bM _ _ _
 have hbd:aM βN ε:=by rw[←hε];exact KG hg o hi _
 have hP:ε.P=ε0.P:=by rw[←hε];rfl
 have h12:ε.iv 12=g.best:=by rw[←hε];rfl
 have h14:ε.iv 14=ind:=by rw[←hε];rfl
 have h3:ε.sv 3=g.nl:=by rw[←hε];rfl
 have h4:ε.sv 4=gj g.u (au ps):=by rw[←hε];rfl
 have h5:ε.sv 5=cI g.best (au ps):=by rw[←hε];rfl
 have hc:(AQ (ew ps) g.u (aD g (au ps))).chk=true:=by
  cases q:(aF (lF 0 (ew ps))&&aD g (au ps)) with
  |false=>rw[q] at hj;exact hj
  |true=>
   replace q:=aB q;exfalso;rw[u8 q.1] at ht;have q2:=q.2;rw[←ht] at q2;injection q2
 have hf:∀ ov cv,ja (ab w mg mb (ε.wO ov cv)) 130 (kB (Hw (ew ps) g.u (aD g (au ps)))):=fun ov cv=>wy fun q hq=>by
  have hw':(ε.wO ov cv).P=w.params:=hP.trans hw;have hok':(ε.wO ov cv).Ok:=fun i=>hok i;have hbd':aM βN (ε.wO ov cv):=fun i p h=>hbd i p h;have ht':(lF 0 (ew ps)).val (ε.wO ov cv)=au ps:=by rw[oW];exact ht
  have l400:(au ps).length≤400:=Nat.le_trans o.t.len (by decide);rcases ey hq with hq|hq
  ·rcases bU hq with rfl|hq
   ·have H:=EE (mg:=mg) (mb:=mb) (u:=g.u) hw' hok' o.t.al l400
    rw[←ht'] at H;exact rQ (Γ:=ab w mg mb (ε.wO ov cv)) hok' hbd' rfl rfl rfl H.1 (by rw[←show _=aD g _ from congrArg _ ht'];exact H.2)
   ·have H:=Ez (mg:=mg) (mb:=mb) (u:=g.u) hw' hok' o.t.al (Nat.le_trans o.t.len (by decide))
    rw[←h4,←ht'] at H;rw[cH hq];exact rQ (Γ:=ab w mg mb (ε.wO ov cv)) hok' hbd' rfl rfl rfl H.1 (by
     show Rz _ _ [] 817 _ (.str (.k (ε.sv 4++[]))) [];rw[af];exact H.2)
  ·cases hs:aD g (au ps) with
   |false=>rw[hs] at hq;cases hq
   |true=>
    rw[hs] at hq;have hn:au ps≠[]:=fun e=>by rw[e] at hs;injection hs
    have H:=Iw (mg:=mg) (mb:=mb) hw' hok' hg.b hn o.t.al l400;rw[←h5,←ht',←h12] at H;rw[cH hq];exact rQ (Γ:=ab w mg mb (ε.wO ov cv)) hok' hbd' rfl rfl rfl H.1 (by
     show Rz _ _ [] 824 [_,.int (.k ((V 12).val (ε.wO ov cv)))] (.str (.k (ε.sv 5++[]))) [];rw[af,bQ];exact H.2)
 have R:=HP (mg:=mg) (mb:=mb) (b:=130) (v:=fun U=>.none) (z:=z) hw hP hok (AQ (ew ps) g.u (aD g (au ps))) hbd (fun ov cv U=>hf ov cv) rfl hc;have es:bC (ai ε (fun U=>.none) z) [.any 0,.any 1,.any 2,.list (oC 0 (ew ps))]=[z 0,z 1,z 2,.list (dk ps)]:=by
  show [z 0,z 1,z 2,aw.list (aO _ (oC 0 (ew ps)))]=_;rw[RZ hsv]
 refine⟨R.1,R.2.cast es ?_ ?_ es⟩
 ·show [AV.cell 3,.int (.k ((V 12).val ε)),.int (.k ((V 14).val ε)),.bool g.u,.str (.k (ε.sv 3++[]))]=_
  rw[bQ,bQ,h12,h14,h3,af];rfl
 ·show AV.str (.k (SS.val ε (Bool.rec [.var 4,.var 3] (.lit [124]::.var 5::.var 3::pQ 0 (ew ps)) (aD g (au ps)))))=.str (.k (bH g ind ps))
  unfold bH;cases aD g (au ps) with
  |false=>show AV.str (.k (ε.sv 4++(ε.sv 3++[])))=_;rw[h4,h3,af]
  |true=>show AV.str (.k (124::(ε.sv 5++(ε.sv 3++(pQ 0 (ew ps)).val ε))))=_;rw[h5,h3,Ss h3 h14 hsv]
end
end
end
section
section
open Classical in
def kO(R:aR)(ls0:ac)(σ0:St)(e0:Expr)(v:AV)(σ1:St):aR:={R with ev:=fun ls σ e=>if ls=ls0∧σ=σ0∧e=e0 then some (v,σ1) else R.ev ls σ e}
section
variable {Γ:ar}{n:Nat}{R:aR}{ls ls1:ac}{σ σ1 σ2:St}{e:Expr}{v:AV}
theorem yT:(kO R ls σ e v σ1).ev ls σ e=some (v,σ1):=if_pos ⟨rfl,rfl,rfl⟩
theorem z8(I:bW Γ n R)(H:Yz Γ n e ls σ v σ1):bW Γ n (kO R ls σ e v σ1):=⟨by
 intro l2 s2 e2 v2 s3 h
 by_cases q:l2=ls∧s2=σ∧e2=e
 ·have h2:(kO R ls σ e v σ1).ev l2 s2 e2=some (v,σ1):=if_pos q
  obtain⟨rfl,rfl,rfl⟩:=q;rw[h2] at h;(apply j2 h;clear h;rintro rfl rfl);have D:b9 Γ n (fun c=>eval e2 c.env) l2 s2 v2 s3:=H.h;exact D
 ·have h2:(kO R ls σ e v σ1).ev l2 s2 e2=R.ev l2 s2 e2:=if_neg q
  rw[h2] at h;have D:b9 Γ n (fun c=>eval e2 c.env) l2 s2 v2 s3:=I.ev h;exact D,I.evo,I.evs,I.evk,I.bl,I.cc,I.tst,I.tb⟩
theorem Dz.asg(I:bW Γ n R)(S:gM Γ n R)(h0:xO ts e=true)(H:Yz Γ n e ls σ v σ1)(h2:R.asgm ls σ1 v ts=some (ls1,σ2)):kg Γ n (.Assign ts e pos) ls σ .next ls1 σ2:=by
 have D:bt Γ n (fun c=>exec (.Assign ts e pos) c.env) ls σ .next ls1 σ2:=Dh (z8 I H) ⟨S.exs,S.ex,S.asg,S.asgs,S.asgm,S.wh⟩ _ (show zn (kO R ls σ e v σ1) ls σ ts e=some (.next,ls1,σ2) by
  show gd (xO ts e) (obp ((kO R ls σ e v σ1).ev ls σ e) fun v σ=>obp (R.asgm ls σ v ts) fun ls σ=>some (Fl.next,ls,σ))=_;rw[h0,yT];show obp (R.asgm ls σ1 v ts) (fun ls σ=>some (Fl.next,ls,σ))=_;rw[h2];rfl)
 exact⟨@D⟩
theorem Yz.slice(he:Γ.ε.Ok)(I:bW Γ n R)(H:Yz Γ n e ls σ (.cell k) σ1)(h1:R.evo ls σ1 none=some (none,σ1))(h2:R.evo ls σ1 (some hi)=some (some (.int (.k j)),σ1))(hx:eq σ1 k=some xs) :
  Yz Γ n (.Subscript e (.Slice none (some hi) none p2) pos) ls σ (.cell (aA σ1)) (σ1++[.list (cut xs none (some j))]):=by
 have D:b9 Γ n (fun c=>eval (.Subscript e (.Slice none (some hi) none p2) pos) c.env) ls σ (.cell (aA σ1)) (σ1++[.list (cut xs none (some j))]):=Df he (z8 I H) (show BV (kO R ls σ e (.cell k) σ1) ls σ e none (some hi) none=_ by
  show obp ((kO R ls σ e (.cell k) σ1).ev ls σ e) (fun v σ=>gd true (obp (R.evo ls σ none) fun a σ=>obp (R.evo ls σ (some hi)) fun b σ=>Option.rec (A9 v a b σ) (fun k=>t6 k a b σ) (ib v)))=_;rw[yT];show obp (R.evo ls σ1 none) (fun a σ=>obp (R.evo ls σ (some hi)) fun b σ=>t6 k a b σ)=_;rw[h1];show obp (R.evo ls σ1 (some hi)) (fun b σ=>t6 k none b σ)=_;rw[h2];show ob (eq σ1 k) (fun xs=>some (new σ1 (.list (cut xs none (some j)))))=_;rw[hx];rfl)
 exact⟨@D⟩
end
def mj:List Stmt:=(cM 834).body
def ii:List (Str×NameKind):=(cM 834).sc
structure HX where
 ts:List Expr
 elt:Expr
 t:Expr
 it:Expr
 sc:Scope
 cp:Pos
 hi:Expr
 p2:Pos
 sp:Pos
 p:Pos
def Mo(l:List Stmt)(i:Nat):Option HX:=match ak l i with|some (.Assign ts (.Subscript (.ListComp elt [⟨t,it,_,_⟩] sc cp) (.Slice _ (some hi) _ p2) sp) p)=>some ⟨ts,elt,t,it,sc,cp,hi,p2,sp,p⟩|_=>none
def b8:HX:=(Mo mj 1).getD ⟨[],.Constant .none 0 default,.Constant .none 0 default,.Constant .none 0 default,⟨.function,[],false,false,[]⟩,default,.Constant .none 0 default,default,default,default⟩
theorem Q3:mj=aP 1 mj++(.Assign b8.ts (.Subscript (.ListComp b8.elt [⟨b8.t,b8.it,[],0⟩] b8.sc b8.cp) (.Slice none (some b8.hi) none b8.p2) b8.sp) b8.p::bk 2 mj):=by kernel_rfl
theorem Pa:eD 834 gL=some (cM 834):=by kernel_rfl
end
end
section
section
section
variable {Γ:ar}{Y:Pi}{b:Nat}
set_option tactic.hygienic true in
theorem JS(P:g8 Γ b Y)(hf:fnIn Γ.K f=true)(H:Rz Γ (10*d+b+25) σ1 f (ov::vs) r σ2){ap cp:Pos}
  (hg:(qA o&&Nat.beq ap.endLine cp.line&&Nat.blt (aA as+aA ([]:List Keyword)+1) 30)=true) (h1:(mk Y N d).ev ls σ o=some (ov,σ)) (h0:mn Y σ ov x=some (.meth f ov)) (h2:(mk Y N d).evs ls σ as=some (vs,σ1)) (h3:(mk Y N d).evk ls σ1 []=some ([],σ1)) :
  Yz Γ (10*d+b+30) (.Call (.Attribute o x ap) as [] cp) ls σ r σ2:=by
 have A:=gu P N d;have hcf:∀ {σ g us kw r' σ'},eV σ1 f (ov::vs) r σ2 σ g us kw=some (r',σ')→fnIn Γ.K g=true∧cF Γ (10*d+b+25) σ g us kw r' σ':=by
  intro s2 g us kw r' s3 hq;unfold eV at hq
  split at hq
  ·rename_i e
   apply nq e;intro e1 e2 e3 e4;(apply j2 hq;clear hq;rintro rfl rfl);rw[e1,e2,e3,e4];have D:cF Γ (10*d+b+25) σ1 f (ov::vs) [] _ s3:=H.h;exact⟨hf,@D⟩
  ·injection hq
 have I2:bW Γ (10*d+b+30) (kI Y (mk Y N d) (eV σ1 f (ov::vs) r σ2)):=⟨A.E.ev,A.E.evo,A.E.evs,A.E.evk,A.E.bl,A.E.cc,A.E.tst,A.E.tb⟩;have J2:nt Γ (10*d+b+30) (kI Y (mk Y N d) (eV σ1 f (ov::vs) r σ2)):=⟨fun h=>⟨(hcf h).1,cF.le (by lia) (hcf h).2⟩,by
  intro σ fv us kw r' σ' h;apply d5 (AL (n:=10*d+b+25) P.hy hcf (fun h=>xP P.hw P.he P.hb P.hy h) h);intro a b' c;exact⟨a,jp.le (by lia) b',fun g self e=>⟨(c g self e).1,cF.le (by lia) (c g self e).2⟩⟩⟩
 have D:b9 Γ (10*d+b+30) (fun c=>eval (.Call (.Attribute o x ap) as [] cp) c.env) ls σ r σ2:=Fc P.hy (HL P.hw P.he P.hb P.nm) I2 J2 (show BW Y (kI Y (mk Y N d) (eV σ1 f (ov::vs) r σ2)) ls σ o x ap as [] cp=some (r,σ2) by
  show gd (qA o&&Nat.beq ap.endLine cp.line&&Nat.blt (aA as+aA ([]:List Keyword)+1) 30) (obp ((mk Y N d).ev ls σ o) fun ov σ=>match mn Y σ ov x with
   |some fv=>vn (kI Y (mk Y N d) (eV σ1 f (_::vs) r σ2)) ls σ fv as []
   |none=>wD Y (kI Y (mk Y N d) (eV σ1 f (_::vs) r σ2)) ls σ ov x as [])=_
  rw[hg,h1];show (match mn Y σ ov x with
   |some fv=>vn (kI Y (mk Y N d) (eV σ1 f (ov::vs) r σ2)) ls σ fv as []
   |none=>wD Y (kI Y (mk Y N d) (eV σ1 f (ov::vs) r σ2)) ls σ ov x as [])=_
  rw[h0];show obp ((mk Y N d).evs ls σ as) (fun vs' σ=>obp ((mk Y N d).evk ls σ []) fun kw σ=>nC Y {mk Y N d with cf:=eV σ1 f (ov::vs) r σ2} σ (.meth f ov) vs' kw)=_;rw[h2];show obp ((mk Y N d).evk ls σ1 []) (fun kw σ=>nC Y {mk Y N d with cf:=eV σ1 f (ov::vs) r σ2} σ (.meth f ov) vs kw)=_;rw[h3];exact Ex)
 exact⟨@D⟩
theorem Dz.expr(I:bW Γ n R)(h0:tD e=true)(H:Yz Γ n e ls σ v σ1):kg Γ n (.Expr e pos) ls σ .next ls σ1:=by
 have D:bt Γ n (fun c=>exec (.Expr e pos) c.env) ls σ .next ls σ1:=HZ (z8 I H) _ (show yP (kO R ls σ e v σ1) ls σ e=some (.next,ls,σ1) by
  show gd (tD e) (obp ((kO R ls σ e v σ1).ev ls σ e) fun U σ=>some (Fl.next,ls,σ))=_;rw[h0,yT];rfl)
 exact⟨@D⟩
end
end
end
section
noncomputable def oU:List (List Nat):=[[97],[],[32,98],[99,32,100,32,101,32,102,32,103],[35,32,101,58,32,102],[45,32,103],[45,45,45],[32,32,104,32,32,105],[],[105,116,39,115,32,34,106,34],[233],[107,32],[9,108],[92,109]]
def rZ(k:Nat):List Nat:=(ak oU k).getD []
def pc(k:Nat):List Nat:=Bool.rec [10] [8232] (Nat.beq (k / 14 % 6) 5)
def aV(x:Nat):List Nat×List Nat:=(rZ (x % 14),pc x)
noncomputable def cg:aw:=.list (oU.map fun l=>.str (.k l))
def mr:Str:=match vE b8.t with|.name x _=>x|_=>n0
noncomputable def ik:Nat→Nat→St
 |_,0=>[]
 |i,n+1=>.any i::ik (i+1) n
noncomputable def ba(p:List Nat×List Nat):AV:=.tup [.str (.k p.1),.str (.k p.2)]
noncomputable def βP:Bd:=[(0,0),(0,20),(0,0),(0,20),(0,0),(0,20),(0,0),(0,20),(0,100),(0,20),(0,0),(0,20)]
def u6(r i:Nat):nX:=⟨βP,bj,3,[],⟨[(mr,.int ⟨r,[(8,84)]⟩)],b8.sc.names⟩,ik 0 (5+i),b8.elt,ba (aV r),ik 0 (5+i)++[cg]⟩
noncomputable def gh(k:Nat):AV:=.tup [.str [.var (2*k)],.str [.var (2*k+1)]]
def uw(f:AV)(cl:Nat)(ps:List (Str×AV)):List (Str×AV):=[(iG,f),(fc,.cell 3),(xk,I cl)]++ps
noncomputable def lN:AV:=.tup [.str [],.str [.lit [10]]]
noncomputable def zU(k:Nat):List AV:=[gh 0,gh 1,gh 2].take k
noncomputable def sX(k cl:Nat):List AV:=([gh 0,gh 1,gh 2].take (k-1))++[.tup [.str [.var (2*(k-1))],.str (match cl with|0=>[]|_=>[.lit [10]])]]
def FH(cl:Nat):bO:=⟨βP,bj,3,[],⟨uw (.any 20) cl [(fh,.cell 8)],ii⟩,ik 0 8++[.list []],bk 2 mj,.ret (.cell 10),0,[],ik 0 8++[.list [],.list [lN],.list (List.replicate cl lN)]⟩
def GO(k cl:Nat):bO:=⟨βP,bj,3,[],⟨uw (.any 20) cl [(fh,.cell 8)],ii⟩,ik 0 8++[.list (zU k)],bk 2 mj,.ret (.cell 11),0,[],ik 0 8++[.list (sX k cl),.list [lN],.list (List.replicate (cl-1) lN),.list (sX k cl++List.replicate (cl-1) lN)]⟩
theorem K5:((List.range 84).all fun r=>[0,1,2].all fun i=>(u6 r i).chk)=true:=by kernel_rfl
theorem MW:([0,1,2,3].all fun cl=>(FH cl).chk&&([1,2,3].all fun k=>(GO k cl).chk))=true:=by kernel_rfl
end
section
section
noncomputable def kX(e:List Nat):bN→bN
 |[]=>[]
 |[p]=>[(p.1,e)]
 |p::q::r=>p::kX e (q::r)
noncomputable def gc(cl:Nat):List Nat:=match cl with|0=>[]|_=>[10]
noncomputable def mW(cl:Nat)(b:bN):bN:=match b with
 |[]=>List.replicate cl ([],[10])
 |p::r=>kX (gc cl) (p::r)++List.replicate (cl-1) ([],[10])
def iI(k a b c:Nat):bN:=[aV a,aV b,aV c].take k
def ug(σ:St)(k:Nat):aw:=(ak σ k).getD (.list [])
def εP(P:Params)(q:Int)(p:Nat→List Nat×List Nat):Ev:=dz P (tn 0 [0,0,0,0,q]) (tn [] [(p 0).1,(p 0).2,(p 1).1,(p 1).2,(p 2).1,(p 2).2])
theorem CS(k:Nat):(rZ k).length≤20:=by
 unfold rZ;cases h:ak oU k with
 |none=>exact Nat.zero_le _
 |some l=>
  rw[dH] at h;exact aq (show (oU.all fun l=>decide (l.length≤20))=true by decide) l (List.mem_of_getElem? h) |> of_decide_eq_true
theorem G8(k:Nat):(pc k).length≤20:=by unfold pc;cases Nat.beq (k / 14 % 6) 5<;>decide
theorem GY(hq:0≤q∧q≤100)(hp:∀ i,(p i).1.length≤20∧(p i).2.length≤20):aM βP (εP P q p):=gx (by
 have e0:(0:Int)≤0∧(0:Int)≤0:=⟨bz _,bz _⟩;have l:∀ {x:List Nat},x.length≤20→(0:Int)≤(x.length:Int)∧(x.length:Int)≤20:=fun h=>⟨bK _,eP h⟩;exact⟨e0,l (hp 0).1,e0,l (hp 0).2,e0,l (hp 1).1,e0,l (hp 1).2,hq,l (hp 2).1,e0,l (hp 2).2,trivial⟩)
theorem Mk(x:Nat):aV (x % 84)=aV x:=by
 have h1:x % 84 % 14=x % 14:=by lia
 have h2:x % 84 / 14 % 6=x / 14 % 6:=by lia
 unfold aV pc;rw[h1,h2]
section
variable {ε:Ev}{v:Nat→AV}{z:Nat→aw}{p:Nat→List Nat×List Nat}
theorem IB:flA (ai (εP P q p) v z) (gh 0)=ba (p 0)∧flA (ai (εP P q p) v z) (gh 1)=ba (p 1)∧flA (ai (εP P q p) v z) (gh 2)=ba (p 2):=by
 have h:∀ a b:List Nat,(AV.tup [.str (.k (a++[])),.str (.k (b++[]))])=ba (a,b):=fun a b=>by rw[af,af];rfl
 exact⟨h _ _,h _ _,h _ _⟩
theorem DL(n:Nat):aO (ai ε v z) (List.replicate n lN)=dk (List.replicate n ([],[10])):=by
 unfold aO dk;rw[List.map_replicate,List.map_replicate];rfl
theorem S6(hk:k=1∨k=2∨k=3):aO (ai (εP P q p) v z) (sX k cl)=dk (kX (gc cl) ([p 0,p 1,p 2].take k)):=by
 have h:∀ a:List Nat,(AV.tup [.str (.k (a++[])),.str (.k (SS.val (εP P q p) (match cl with|0=>[]|_=>[.lit [10]])))])=ba (a,gc cl):=fun a=>by
  rw[af];cases cl<;>rfl
 apply d5 (IB);intro h0 h1 h2;rcases hk with rfl|rfl|rfl
 ·exact congrArg (fun x=>[x]) (h (p 0).1)
 ·show [flA _ (gh 0),_]=[ba (p 0),ba ((p 1).1,gc cl)]
  rw[h0];exact congrArg (fun x=>[_,x]) (h (p 1).1)
 ·show [flA _ (gh 0),flA _ (gh 1),_]=[ba (p 0),ba (p 1),ba ((p 2).1,gc cl)]
  rw[h0,h1];exact congrArg (fun x=>[_,_,x]) (h (p 2).1)
theorem Un(hk:k=1∨k=2∨k=3):aO (ai (εP P q p) v z) (zU k)=dk ([p 0,p 1,p 2].take k):=by
 apply d5 (IB);intro h0 h1 h2;rcases hk with rfl|rfl|rfl
 ·exact congrArg (fun x=>[x]) h0
 ·show [flA _ (gh 0),flA _ (gh 1)]=_;rw[h0,h1];rfl
 ·show [flA _ (gh 0),flA _ (gh 1),flA _ (gh 2)]=_;rw[h0,h1,h2];rfl
end
section
variable {w:World}{mg mb:Str→Option Value}{ε0:Ev}{z:Nat→aw}
variable (hw:ε0.P=w.params)(he:ε0.Ok)
include hw
theorem Ba{x:Nat}(hx:x<5040){i:Nat}(hi:i=0∨i=1∨i=2):Yz (ab w mg mb ε0) 150 b8.elt ⟨[(mr,I x)],b8.sc.names⟩ (bC (ai ε0 (fun U=>.none) z) (ik 0 (5+i))) (ba (aV x)) (bC (ai ε0 (fun U=>.none) z) (ik 0 (5+i))++[cg]):=by
 have hj:=aq (aq K5 (x % 84) (eU (Nat.mod_lt _ (by decide)))) i (by rcases hi with rfl|rfl|rfl<;>simp);have Y:=(wW (mg:=mg) (mb:=mb) (b:=0) (v:=fun U=>.none) (z:=z) hw (ε:=εP ε0.P ((x / 84:Nat):Int) fun U=>([],[])) rfl (bM _ _ _) (u6 (x % 84) i) (GY ⟨bK _,by lia⟩ fun U=>⟨Nat.zero_le _,Nat.zero_le _⟩) (fun U U U=>oN) rfl hj).le (n:=150) (by show 10*3+0+30≤150;decide);have e1:cC (ai (εP ε0.P ((x / 84:Nat):Int) fun U=>([],[])) (fun U=>.none) z) (u6 (x % 84) i).ls=⟨[(mr,I x)],b8.sc.names⟩:=by
  show (⟨[(mr,.int (.k (((x % 84:Nat):Int)+(84*((x / 84:Nat):Int)+0))))],_⟩ : ac)=_;rw[show ((x % 84:Nat):Int)+(84*((x / 84:Nat):Int)+0)=x by lia];rfl
 have e2:flA (ai (εP ε0.P ((x / 84:Nat):Int) fun U=>([],[])) (fun U=>.none) z) (ba (aV (x % 84)))=ba (aV x):=by
  rw[Mk];show AV.tup [.str (.k ((SS.k (aV x).1).val _)),.str (.k ((SS.k (aV x).2).val _))]=_;rw[db,db];rfl
 rw[e1,show (u6 (x % 84) i).r=ba (aV (x % 84)) from rfl,e2] at Y;rcases hi with rfl|rfl|rfl<;>exact Y
end
end
end
section
section
theorem FQ(F a b:Nat):Int.fmod (Int.fdiv (F:Int) (a:Int)) (b:Int)=((F / a % b:Nat):Int):=by
 rw[Int.fdiv_eq_ediv_of_nonneg _ (bK a),Int.fmod_eq_emod_of_nonneg _ (bK b)];push_cast;rfl
noncomputable def uZ(F:Nat):Int:=3+-(Int.fmod (Int.fdiv (F:Int) ((16:Nat):Int)) ((4:Nat):Int))
theorem ot(φ:eY)(a b:List AV):aO φ (a++b)=aO φ a++aO φ b:=List.map_append
theorem MM(F:Nat)(xs:List AV)(h:xs.length=3):cut xs none (some (uZ F))=xs.take (3-F / 16 % 4):=by
 have e:uZ F=((3-F / 16 % 4:Nat):Int):=by unfold uZ;rw[FQ];lia
 match xs,h with
 |[a,b,c],_=>
  rw[e];generalize hk:3-F / 16 % 4=k;have:k=0∨k=1∨k=2∨k=3:=by lia
  rcases this with rfl|rfl|rfl|rfl<;>rfl
section
variable {w:World}{mg mb:Str→Option Value}{ε0:Ev}{z:Nat→aw}
variable (hw:ε0.P=w.params)(he:ε0.Ok)
include hw he
theorem T4{ls:List (Str×AV)}{a b c:Nat}(ha:a<5040)(hb:b<5040)(hc:c<5040)(hy:(cX [] bj 12).ev ⟨ls,ii⟩ [z 0,z 1,z 2,.list [I a,I b,I c]] b8.it=some (.cell 3,[z 0,z 1,z 2,.list [I a,I b,I c]])) :
  Yz (ab w mg mb ε0) 150 (.ListComp b8.elt [⟨b8.t,b8.it,[],0⟩] b8.sc b8.cp) ⟨ls,ii⟩ [z 0,z 1,z 2,.list [I a,I b,I c]] (.cell 4) [z 0,z 1,z 2,.list [I a,I b,I c],.list [ba (aV a),ba (aV b),ba (aV c)],cg,cg,cg]:=by
 have Y:Yz (ab w mg mb ε0) 150 b8.it ⟨ls,ii⟩ [z 0,z 1,z 2,.list [I a,I b,I c]] (.cell 3) [z 0,z 1,z 2,.list [I a,I b,I c]]:=GS hw he (by decide) hy;have A:∀ (x:Nat) (σ:St),Az (ab w mg mb ε0) 150 b8.t (I x) ⟨[],b8.sc.names⟩ σ ⟨[(mr,I x)],b8.sc.names⟩ σ:=fun x σ=>j6 hw he (show (cX [] bj 0).asg ⟨[],b8.sc.names⟩ σ (I x) b8.t=some (⟨[(mr,I x)],b8.sc.names⟩,σ) by kernel_rfl);have E0:Yz (ab w mg mb ε0) 150 b8.elt ⟨[(mr,I a)],b8.sc.names⟩ [z 0,z 1,z 2,.list [I a,I b,I c],.list []] (ba (aV a)) [z 0,z 1,z 2,.list [I a,I b,I c],.list [],cg]:=Ba (z:=ug [z 0,z 1,z 2,.list [I a,I b,I c],.list []]) hw ha (i:=0) (.inl rfl);have E1:Yz (ab w mg mb ε0) 150 b8.elt ⟨[(mr,I b)],b8.sc.names⟩ [z 0,z 1,z 2,.list [I a,I b,I c],.list [ba (aV a)],cg] (ba (aV b)) [z 0,z 1,z 2,.list [I a,I b,I c],.list [ba (aV a)],cg,cg]:=Ba (z:=ug [z 0,z 1,z 2,.list [I a,I b,I c],.list [ba (aV a)],cg]) hw hb (i:=1) (.inr (.inl rfl));have E2:Yz (ab w mg mb ε0) 150 b8.elt ⟨[(mr,I c)],b8.sc.names⟩ [z 0,z 1,z 2,.list [I a,I b,I c],.list [ba (aV a),ba (aV b)],cg,cg] (ba (aV c)) [z 0,z 1,z 2,.list [I a,I b,I c],.list [ba (aV a),ba (aV b)],cg,cg,cg]:=Ba (z:=ug [z 0,z 1,z 2,.list [I a,I b,I c],.list [ba (aV a),ba (aV b)],cg,cg]) hw hc (i:=2) (.inr (.inr rfl));have C:Cz (ab w mg mb ε0) 150 b8.sc.names b8.t b8.elt 4 (.lst 3 0) [z 0,z 1,z 2,.list [I a,I b,I c],.list []] [z 0,z 1,z 2,.list [I a,I b,I c],.list [ba (aV a),ba (aV b),ba (aV c)],cg,cg,cg] :=
  .step (it':=.lst 3 1) (v:=I a) rfl (A a _).h E0.h (xs:=[]) rfl (by decide) (.step (it':=.lst 3 2) (v:=I b) rfl (A b _).h E1.h (xs:=[ba (aV a)]) rfl (by simp) (.step (it':=.lst 3 3) (v:=I c) rfl (A c _).h E2.h (xs:=[ba (aV a),ba (aV b)]) rfl (by simp) (.stop rfl)))
 have D:b9 (ab w mg mb ε0) 150 (fun c=>eval (.ListComp b8.elt [⟨b8.t,b8.it,[],0⟩] b8.sc b8.cp) c.env) ⟨ls,ii⟩ [z 0,z 1,z 2,.list [I a,I b,I c]] (.cell 4) [z 0,z 1,z 2,.list [I a,I b,I c],.list [ba (aV a),ba (aV b),ba (aV c)],cg,cg,cg]:=Dt (by kernel_rfl) (by kernel_rfl) (by kernel_rfl) Y.h (xs:=[I a,I b,I c]) rfl C;exact⟨@D⟩
theorem Ty{F a b c:Nat}(ha:a<5040)(hb:b<5040)(hc:c<5040) :
  ∃ j more L,aQ (ab w mg mb ε0) 150 (cM 834).body ⟨[(iG,I F),(fc,.cell 3)],ii⟩ [z 0,z 1,z 2,.list [I a,I b,I c]] (.ret (.cell j)) L ([z 0,z 1,z 2,.list [I a,I b,I c]]++more)∧4≤j∧ak ([z 0,z 1,z 2,.list [I a,I b,I c]]++more) j=some (.list (dk (mW (F / 4 % 4) (iI (3-F / 16 % 4) a b c)))):=by
 have D1:aQ (ab w mg mb ε0) 150 (aP 1 mj) ⟨[(iG,I F),(fc,.cell 3)],ii⟩ [z 0,z 1,z 2,.list [I a,I b,I c]] .next ⟨uw (I F) (F / 4 % 4) [],ii⟩ [z 0,z 1,z 2,.list [I a,I b,I c]]:=by
  have e:(cX [] bj 3).exs ⟨[(iG,I F),(fc,.cell 3)],ii⟩ [z 0,z 1,z 2,.list [I a,I b,I c]] (aP 1 mj)=some (.next,⟨[(iG,I F),(fc,.cell 3),(xk,.int (.k (Int.fmod (Int.fdiv (F:Int) ((4:Nat):Int)) ((4:Nat):Int))))],ii⟩,[z 0,z 1,z 2,.list [I a,I b,I c]]):=by kernel_rfl
  rw[FQ] at e;exact yE hw he (by decide) e
 have I0:=gu (mZ (mg:=mg) (mb:=mb) hw he) 300 12;have Y:=T4 (mg:=mg) (mb:=mb) (z:=z) hw he (ls:=uw (I F) (F / 4 % 4) []) ha hb hc (by kernel_rfl);have S:=Yz.slice (hi:=b8.hi) (p2:=b8.p2) (pos:=b8.sp) (j:=uZ F) he I0.E Y (by kernel_rfl) (by kernel_rfl) (xs:=[ba (aV a),ba (aV b),ba (aV c)]) rfl;rw[MM F _ rfl] at S;have D2:=Dz.asg (pos:=b8.p) (ts:=b8.ts) (ls1:=⟨uw (I F) (F / 4 % 4) [(fh,.cell 8)],ii⟩) (σ2:=[z 0,z 1,z 2,.list [I a,I b,I c],.list [ba (aV a),ba (aV b),ba (aV c)],cg,cg,cg]++[.list ([ba (aV a),ba (aV b),ba (aV c)].take (3-F / 16 % 4))]) I0.E I0.S (by kernel_rfl) S (by kernel_rfl);have l20:∀ i,(((tn (aV c) [aV a,aV b]):Nat→List Nat×List Nat) i).1.length≤20∧(((tn (aV c) [aV a,aV b]):Nat→List Nat×List Nat) i).2.length≤20:=fun i=>by
  cases i with
  |zero=>exact⟨CS _,G8 _⟩
  |succ i=>cases i<;>exact⟨CS _,G8 _⟩
 have bd:=GY (P:=ε0.P) (q:=0) (by decide) l20;have hcl:F / 4 % 4∈List.range 4:=eU (Nat.mod_lt _ (by decide));have hj:=aB (aq MW _ hcl);generalize F / 4 % 4=cl at *
 have hk:3-F / 16 % 4=0∨(3-F / 16 % 4=1∨3-F / 16 % 4=2∨3-F / 16 % 4=3):=by lia
 generalize 3-F / 16 % 4=k at *
 rw[show (cM 834).body=mj from rfl,Q3];have eI:∀ ε (z:Nat→aw),flA (ai ε (fun U=>I F) z) (I cl)=I cl:=fun ε z=>by show AV.int (.k ((am.k cl).val _))=_;rw[bV];rfl
 rcases hk with rfl|hk
 ·have J:=ck (mg:=mg) (mb:=mb) (v:=fun U=>I F) (z:=ug [z 0,z 1,z 2,.list [I a,I b,I c],.list [ba (aV a),ba (aV b),ba (aV c)],cg,cg,cg]) hw (ε:=εP ε0.P 0 _) rfl (bM _ _ _) (FH cl) bd ⟨rfl,(by decide:3≤12),rfl⟩ hj.1
  refine⟨10,[.list [ba (aV a),ba (aV b),ba (aV c)],cg,cg,cg,.list [],.list [ba ([],[10])],.list (dk (List.replicate cl ([],[10])))],_,D1.append (D2.cons (J.cast ?_ ?_ rfl rfl ?_)),by decide,rfl⟩
  ·show (⟨[(iG,I F),(fc,.cell 3),(xk,flA _ (I cl)),(fh,.cell 8)],ii⟩ : ac)=_
   rw[eI];rfl
  ·rfl
  ·show [z 0,z 1,z 2,.list [I a,I b,I c],.list [ba (aV a),ba (aV b),ba (aV c)],cg,cg,cg,.list [],.list [ba ([],[10])],.list (aO _ (List.replicate cl lN))]=_
   rw[DL];rfl
 ·have J:=ck (mg:=mg) (mb:=mb) (v:=fun U=>I F) (z:=ug [z 0,z 1,z 2,.list [I a,I b,I c],.list [ba (aV a),ba (aV b),ba (aV c)],cg,cg,cg]) hw (ε:=εP ε0.P 0 _) rfl (bM _ _ _) (GO k cl) bd ⟨rfl,(by decide:3≤12),rfl⟩ (aq hj.2 k (by rcases hk with rfl|rfl|rfl<;>simp))
  refine⟨11,[.list [ba (aV a),ba (aV b),ba (aV c)],cg,cg,cg,.list (dk (kX (gc cl) (iI k a b c))),.list [ba ([],[10])],.list (dk (List.replicate (cl-1) ([],[10]))),.list (dk (kX (gc cl) (iI k a b c)++List.replicate (cl-1) ([],[10])))],_,D1.append (D2.cons (J.cast ?_ ?_ rfl rfl ?_)),by decide,?_⟩
  ·show (⟨[(iG,I F),(fc,.cell 3),(xk,flA _ (I cl)),(fh,.cell 8)],ii⟩ : ac)=_
   rw[eI];rfl
  ·show [z 0,z 1,z 2,.list [I a,I b,I c],.list [ba (aV a),ba (aV b),ba (aV c)],cg,cg,cg,.list (aO _ (zU k))]=_
   rw[Un hk];rcases hk with rfl|rfl|rfl<;>rfl
  ·show [z 0,z 1,z 2,.list [I a,I b,I c],.list [ba (aV a),ba (aV b),ba (aV c)],cg,cg,cg,.list (aO _ (sX k cl)),.list [ba ([],[10])],.list (aO _ (List.replicate (cl-1) lN)),.list (aO _ (sX k cl++List.replicate (cl-1) lN))]=_
   rw[ot,S6 hk,DL,show dk (kX (gc cl) (iI k a b c)++List.replicate (cl-1) ([],[10]))=dk (kX (gc cl) (iI k a b c))++dk (List.replicate (cl-1) ([],[10])) from List.map_append];rfl
  ·rcases hk with rfl|rfl|rfl<;>rfl
theorem KR{F a b c:Nat}(ha:a<5040)(hb:b<5040)(hc:c<5040) :
  ∃ j more,(fnIn (cE w.params) 834=true∧Rz (ab w mg mb ε0) 155 [z 0,z 1,z 2,.list [I a,I b,I c]] 834 [I F,.cell 3] (.cell j) ([z 0,z 1,z 2,.list [I a,I b,I c]]++more))∧4≤j∧ak ([z 0,z 1,z 2,.list [I a,I b,I c]]++more) j=some (.list (dk (mW (F / 4 % 4) (iI (3-F / 16 % 4) a b c)))):=by
 apply eZ (Ty hw he ha hb hc);intro j more L D h1 h2;have P:g8 (ab w mg mb ε0) 0 (wz []):=AN hw he (vd _);apply aN (P.hf 834 _ Pa);intro g1 g2;refine⟨j,more,⟨g1,?_⟩,h1,h2⟩;have H:cF (ab w mg mb ε0) 155 [z 0,z 1,z 2,.list [I a,I b,I c]] 834 [I F,.cell 3] [] (.cell j) (iM 4 (.cell j) ([z 0,z 1,z 2,.list [I a,I b,I c]]++more)):=sG g2 (by kernel_rfl) (Nat.le_refl _) (.inl rfl) D.h;have e:iM 4 (.cell j) ([z 0,z 1,z 2,.list [I a,I b,I c]]++more)=[z 0,z 1,z 2,.list [I a,I b,I c]]++more:=by
  unfold iM;cases Nat.beq (aA ([z 0,z 1,z 2,.list [I a,I b,I c]]++more)) 4 with
  |true=>rfl
  |false=>
   have:fH 4 (.cell j)=false:=by
    show Nat.blt j 4=false;cases q:Nat.blt j 4 with
    |false=>rfl
    |true=>exact absurd (df q) (by lia)
   rw[this]
 rw[e] at H;exact⟨@H⟩
end
end
end
section
theorem GE(e:List Nat)(q:List Nat×List Nat):∀ b:bN,kX e (b++[q])=b++[(q.1,e)]
 |[]=>rfl
 |[p]=>rfl
 |p::r::b=>congrArg (p::·) (GE e q (r::b))
theorem ya(cl:Nat)(b:bN)(q:List Nat×List Nat):mW cl (b++[q])=b++((q.1,gc cl)::List.replicate (cl-1) ([],[10])):=by
 have:∀ c:bN,c≠[]→mW cl c=kX (gc cl) c++List.replicate (cl-1) ([],[10]):=fun c h=>by
  cases c with
  |nil=>exact absurd rfl h
  |cons p r=>rfl
 rw[this _ (by simp),GE,aX];rfl
structure wm (p:List Nat×List Nat):Prop where
 l:p.1.length≤9
 a:∀ c∈p.1,c∈aZ∧aC c=false
 e:p.2=[10]∨p.2=[8232]
theorem Mm:(oU.all fun l=>decide (l.length≤9)&&l.all fun c=>aK c aZ&&!aC c)=true:=by decide +kernel
theorem y4(x:Nat):wm (aV x):=by
 have key:∀ l∈oU,l.length≤9∧∀ c∈l,c∈aZ∧aC c=false:=fun l hl=>by
  have h:=aB (aq Mm l hl);refine⟨of_decide_eq_true h.1,fun c hc=>?_⟩;replace h:=aB (aq h.2 c hc);exact⟨o9.mp h.1,by simpa using h.2⟩
 have hr:(rZ (x % 14)).length≤9∧∀ c∈rZ (x % 14),c∈aZ∧aC c=false:=by
  unfold rZ;cases h:ak oU (x % 14) with
  |none=>exact⟨Nat.zero_le _,nofun⟩
  |some l=>rw[dH] at h;exact key l (List.mem_of_getElem? h)
 refine⟨hr.1,hr.2,?_⟩;show pc x=[10]∨pc x=[8232];unfold pc;cases Nat.beq (x / 14 % 6) 5
 ·exact .inl rfl
 ·exact .inr rfl
inductive d4:bN→Prop
 |none {n:Nat}:n≤3→d4 (List.replicate n ([],[10]))
 |some {b:bN} {q:List Nat} {cl:Nat}:b.length≤2→(∀ p∈b,wm p)→q.length≤9→(∀ c∈q,c∈aZ∧aC c=false)→cl≤3→d4 (b++((q,gc cl)::List.replicate (cl-1) ([],[10])))
theorem SA(a b c:Nat)(h1:cl≤3)(h2:k≤3):d4 (mW cl (iI k a b c)):=by
 have ra:=y4 a;have rb:=y4 b;have rc:=y4 c;have:k=0∨k=1∨k=2∨k=3:=by lia
 rcases this with rfl|rfl|rfl|rfl
 ·exact .none h1
 ·rw[show iI 1 a b c=[]++[aV a] from rfl,ya]
  exact .some (Nat.zero_le _) nofun ra.l ra.a h1
 ·rw[show iI 2 a b c=[aV a]++[aV b] from rfl,ya]
  exact .some (Nat.le_succ 1) (fun p hp=>cH hp▸ra) rb.l rb.a h1
 ·rw[show iI 3 a b c=[aV a,aV b]++[aV c] from rfl,ya]
  refine .some (Nat.le_refl 2) (fun p hp=>?_) rc.l rc.a h1;rcases bU hp with rfl|hp
  ·exact ra
  ·exact cH hp▸rb
theorem Mj:∀ b:bN,(∀ p∈b,wm p)→ew b∈yZ b.length:=by
 intro L0;induction L0 with
 |nil=>
  intro _;exact .head _
 |cons p r ih=>
  intro h;refine List.mem_flatMap.mpr ⟨ew r,ih fun x hx=>h x (.tail _ hx),List.mem_flatMap.mpr ⟨!aF p.1,cU _,List.mem_map.mpr ⟨p.2,?_,rfl⟩⟩⟩;rcases (h p (.head _)).e with e|e<;>rw[e]<;>simp
theorem LZ(h:n≤3):n∈[0,1,2,3]:=by
 have:n=0∨n=1∨n=2∨n=3:=by lia
 simpa using this
theorem CP(n:Nat):ew (List.replicate n ([],[10]))=wK n:=List.map_replicate
theorem Nj(h:d4 ps):ew ps∈AT:=by
 cases h with
 |none h=>rw[CP];exact bq _ (List.mem_map_of_mem (LZ h))
 |@some b q cl h1 h2 h3 h4 h5=>
  refine cS _ (List.mem_flatMap.mpr ⟨b.length,?_,List.mem_flatMap.mpr ⟨ew b,Mj b h2,List.mem_flatMap.mpr ⟨!aF q,cU _,?_⟩⟩⟩)
  ·have:b.length=0∨b.length=1∨b.length=2:=by lia
   simpa using this
  ·have e:ew (b++((q,gc cl)::List.replicate (cl-1) ([],[10])))=ew b++((!aF q,gc cl)::wK (cl-1)):=by
    rw[←CP];exact List.map_append
   rw[e];have:cl=0∨cl=1∨cl=2∨cl=3:=by lia
   rcases this with rfl|rfl|rfl|rfl
   ·exact .head _
   ·exact .tail _ (.head _)
   ·exact .tail _ (.tail _ (.head _))
   ·exact .tail _ (.tail _ (.tail _ (.head _)))
theorem RW(a b:bN):au (a++b)=au a++au b:=List.flatMap_append
theorem NY(n:Nat):au (List.replicate n ([],[10]))=List.replicate n 10:=by
 induction n with
 |zero=>rfl
 |succ n ih=>exact congrArg (10::·) ih
theorem Uv(h:∀ p∈b,wm p):(∀ c∈au b,c∈aZ)∧(au b).length≤10*b.length:=by
 induction b with
 |nil=>exact⟨nofun,Nat.le_refl _⟩
 |cons p r ih=>
  apply aN (ih fun x hx=>h x (.tail _ hx));intro i1 i2;have o:=h p (.head _);refine⟨fun c hc=>?_,?_⟩
  ·rcases ey hc with hc|hc
   ·rcases ey hc with hc|hc
    ·exact(o.a c hc).1
    ·rcases o.e with e|e<;>(rw[e] at hc;rw[cH hc];decide)
   ·exact i1 c hc
  ·have:=o.l
   replace e:p.2.length=1:=by rcases o.e with e|e<;>rw[e]<;>rfl
   show ((p.1++p.2)++au r).length≤10*(r.length+1);rw[ax,ax,e];lia
theorem CV(n:Nat):(∀ c∈au (List.replicate n ([],[10])),c∈aZ)∧(au (List.replicate n ([],[10]))).length=n:=by
 rw[NY];exact⟨fun c hc=>by rw[List.eq_of_mem_replicate hc];decide,List.length_replicate⟩
theorem IU(cl:Nat):(∀ c∈gc cl,c∈aZ)∧(gc cl).length≤1:=by
 cases cl
 ·exact⟨nofun,Nat.zero_le _⟩
 ·exact⟨fun c hc=>by rw[cH hc];decide,Nat.le_refl _⟩
theorem jW(h:d4 ps):uR ps:=by
 have hs:=Nj h;cases h with
 |@none n h=>
  apply aN (CV n);intro t1 t2;refine⟨hs,⟨t1,by rw[t2];lia⟩,fun p hp=>by rw[List.eq_of_mem_replicate hp];exact Nat.zero_le _,fun j p hp U=>?_⟩;rw[dH] at hp;rw[List.eq_of_mem_replicate (List.mem_of_getElem? hp)]
 |@some b q cl h1 h2 h3 h4 h5=>
  apply aN (CV (cl-1));intro t1 t2;apply aN (Uv h2);intro r1 r2;apply aN (IU cl);intro c1 c2;have ev:au (b++((q,gc cl)::List.replicate (cl-1) ([],[10])))=au b++((q++gc cl)++au (List.replicate (cl-1) ([],[10]))):=RW _ _;refine⟨hs,⟨fun c hc=>?_,?_⟩,fun p hp=>?_,fun j p hp hj=>?_⟩
  ·rw[ev] at hc
   rcases ey hc with hc|hc
   ·exact r1 c hc
   ·rcases ey hc with hc|hc
    ·rcases ey hc with hc|hc
     ·exact(h4 c hc).1
     ·exact c1 c hc
    ·exact t1 c hc
  ·rw[ev,ax,ax,ax,t2];lia
  ·rcases ey hp with hp|hp
   ·exact Nat.le_trans (h2 p hp).l (by decide)
   ·rcases bU hp with rfl|hp
    ·exact Nat.le_trans h3 (by decide)
    ·rw[List.eq_of_mem_replicate hp];exact Nat.zero_le _
  ·rw[dH,List.getElem?_append_right (by lia)] at hp
   obtain⟨m,hm⟩ : ∃ m,j-b.length=m+1:=⟨j-b.length-1,by lia⟩;rw[hm,List.getElem?_cons_succ] at hp;rw[List.eq_of_mem_replicate (List.mem_of_getElem? hp)]
end
section
section
noncomputable def xe:bN→Prop
 |[]=>True
 |p::r=>(∀ c∈p.1,aC c=false)∧(((p.2=[10]∨p.2=[8232])∨(p.2=[]∧r=[]))∧xe r)
theorem E7(n:Nat):xe (List.replicate n ([],[10])):=by
 induction n with
 |zero=>trivial
 |succ n ih=>exact⟨nofun,.inl (.inl rfl),ih⟩
theorem Ll(h:d4 ps):xe ps:=by
 cases h with
 |none _=>exact E7 _
 |@some b q cl h1 h2 h3 h4 h5=>
  clear h1 h5;induction b with
  |nil=>
   refine⟨fun c hc=>(h4 c hc).2,?_,E7 _⟩;cases cl
   ·exact .inr ⟨rfl,rfl⟩
   ·exact .inl (.inl rfl)
  |cons p r ih=>exact⟨fun c hc=>((h2 p (.head _)).a c hc).2,.inl (h2 p (.head _)).e,ih fun x hx=>h2 x (.tail _ hx)⟩
section
variable {nl:List Nat}{ind:Int}
theorem P0(rest:List Nat):∀ (r t:List Nat),(∀ c∈r,aC c=false)→cA nl ind (r++rest) false t=cA nl ind rest false (t++r):=by
 intro L0;induction L0 with
 |nil=>
  intro t _;rw[af];rfl
 |cons c r ih=>
  intro t h;have:cA nl ind (c::(r++rest)) false t=cA nl ind (r++rest) false (t++[c]):=by
   show Bool.rec (motive:=fun U=>List Nat×Int×Int) _ _ (aC c)=_;rw[h c (.head _)]
  rw[List.cons_append,this,ih _ fun x hx=>h x (.tail _ hx),aX];rfl
theorem Hh(rest s:List Nat)(hq:q≠[])(h:∀ c∈q,aC c=false):(cA nl ind (q++rest) true s).1=s.flatMap (fR nl)++(List.replicate ind.toNat 32++(cA nl ind rest false q).1):=by
 cases q with
 |nil=>exact absurd rfl hq
 |cons c r=>
  have e:cA nl ind (c::(r++rest)) true s=(s.flatMap (fR nl)++(List.replicate ind.toNat 32++(cA nl ind (r++rest) false [c]).1),s.length+(cA nl ind (r++rest) false [c]).2.1,s.length+1+(cA nl ind (r++rest) false [c]).2.2):=by
   show Bool.rec (motive:=fun U=>List Nat×Int×Int) _ _ (aC c)=_;rw[h c (.head _)]
  rw[List.cons_append,e,P0 rest r _ fun x hx=>h x (.tail _ hx)];rfl
theorem Gv(he:aC e=true)(rest s:List Nat):cA nl ind (e::rest) true s=cA nl ind rest true (s++[e])∧(cA nl ind (e::rest) false s).1=s++(cA nl ind rest true [e]).1:=by
 constructor
 ·show Bool.rec (motive:=fun U=>List Nat×Int×Int) _ _ (aC e)=_;rw[he]
 ·show (Bool.rec (motive:=fun U=>List Nat×Int×Int) _ _ (aC e)).1=_;rw[he]
theorem xZ(q e:List Nat)(r:bN):lu nl ind ((q,e)::r)=Bool.rec [] (List.replicate ind.toNat 32++q) (!aF q)++(Bool.rec (Bool.rec [] nl (!aF q ||co e [10])) [8232] (co e [8232])++lu nl ind r):=rfl
theorem M5:∀ (ps:bN) (s:List Nat),xe ps→(cA nl ind (au ps) true s).1=s.flatMap (fR nl)++lu nl ind ps:=by
 intro L0;induction L0 with
 |nil=>
  intro s _;exact(af _).symm
 |cons x0 r ih=>
  obtain⟨q,e⟩:=x0;rintro s ⟨h1,h2,h3⟩;have ev:au ((q,e)::r)=q++(e++au r):=aX ..;have sep:∀ x:Nat,aC x=true→(q=[]→(cA nl ind (au ((q,[x])::r)) true s).1=s.flatMap (fR nl)++(fR nl x++lu nl ind r))∧(q≠[]→(cA nl ind (au ((q,[x])::r)) true s).1=s.flatMap (fR nl)++((List.replicate ind.toNat 32++q)++(fR nl x++lu nl ind r))):=fun x hx=>by
   have ev:au ((q,[x])::r)=q++(x::au r):=aX ..;refine⟨fun hq=>?_,fun hq=>?_⟩
   ·rw[ev,hq,List.nil_append,(Gv hx _ _).1,ih _ h3,List.flatMap_append,aX]
    simp
   ·rw[ev,Hh _ _ hq h1,(Gv hx _ _).2,ih _ h3,aX]
    simp
  rcases h2 with (h2|h2)|⟨h2,h4⟩
  ·replace h2:e=[10]:=h2
   subst h2;rw[xZ];cases q with
   |nil=>exact(sep 10 rfl).1 rfl
   |cons a t=>exact(sep 10 rfl).2 (List.cons_ne_nil _ _)
  ·replace h2:e=[8232]:=h2
   subst h2;rw[xZ];cases q with
   |nil=>exact(sep 8232 rfl).1 rfl
   |cons a t=>exact(sep 8232 rfl).2 (List.cons_ne_nil _ _)
  ·replace h2:e=[]:=h2
   subst h2 h4;rw[xZ,ev];cases q with
   |nil=>exact(af _).symm
   |cons a t=>
    rw[Hh _ _ (List.cons_ne_nil _ _) h1];show _++(_++((a::t)++nl))=_++((_++(a::t))++(nl++[]));rw[af,aX]
end
theorem Jr(u:Bool):∀ (v s:List Nat),(∀ c∈v,c∈aZ)→(bB u v s).1=s++v.flatMap (bL u):=by
 intro L0;induction L0 with
 |nil=>
  intro s _;exact(af s).symm
 |cons c r ih=>
  intro s h;have hc:=aq (show (aZ.all fun c=>spec u c ||co (bL u c) [c])=true by cases u<;>decide +kernel) c (h c (.head _));show (Bool.rec (motive:=fun U=>List Nat×Int) (bB u r (s++[c])) (s++(bL u c++(bB u r []).1),dY s+1+(bB u r []).2) (spec u c)).1=_;cases q:spec u c with
  |true=>show s++(bL u c++(bB u r []).1)=_;rw[ih [] fun x hx=>h x (.tail _ hx)];rfl
  |false=>
   rw[q] at hc;show (bB u r (s++[c])).1=_;rw[ih _ fun x hx=>h x (.tail _ hx),aX,List.flatMap_cons,gJ.mp hc]
theorem vc(h:d4 ps):32::bH g ind ps=dJ g ind (au ps)++cW g (aD g (au ps)):=by
 unfold bH dJ cW gj;cases hs:aD g (au ps) with
 |false=>
  show 32::((34::((au ps).flatMap (bL g.u)++[34]))++g.nl)=(32::34::((bB g.u (au ps) []).1++[34]))++g.nl;rw[Jr _ _ _ (jW h).t.al];rfl
 |true=>
  show _=(cR g.best g.nl ind (au ps)).1++[];rw[af];unfold cR;rw[M5 ps [] (Ll h)];rfl
end
end
section
def D9:List Stmt:=(cM 839).body
def ay:List (Str×NameKind):=(cM 839).sc
def bS(i:Nat):Stmt:=(ak D9 i).getD (.Pass default)
def fK:uC:=By D9 15
def bT(i:Nat):Stmt:=(ak fK.b i).getD (.Pass default)
def dO(t d a b l n w ap sh pd ev du na oe:AV):List (Str×AV):=[(iA,t),(iu,d),(qe,a),(lT,b),(oR,l),(oI,n),(lg,w),(MA,ap),(N1,sh),(SR,pd),(xd,ev),(mO,du),(NQ,na),(Ri,oe)]
def sW(m:List (Str×AV)):List (Str×AV):=dO (.cell 2) (.cell 0) (.any 20) (.any 21) (.any 22) (.any 23) (.any 24) (.any 25) (.any 26) (.any 27) (.cell 1) (.any 28) (.any 29) (.any 30)++m
structure Lk where
 asked:Nat
 best:Nat
 lb:List Nat
 nl:List Nat
 wide:Bool
 apart:Bool
 shut:Bool
structure Lm where
 due:List Nat
 narrow:Bool
 oe:Bool
noncomputable def cY(c:Lk):List Nat:=List.replicate (c.best-1) 32
def bG(c:Lk)(y:Lm)(m:List (Str×AV)):List (Str×AV):=dO (.cell 2) (.cell 0) (I c.asked) (I c.best) (.str (.k c.lb)) (.str (.k c.nl)) (.bool c.wide) (.bool c.apart) (.bool c.shut) (.str (.k (cY c))) (.cell 1) (.str (.k y.due)) (.bool y.narrow) (.bool y.oe)++m
def ke(c:Lk)(y:Lm)(o:Nat→AV):Nat→AV:=tO o 20 [some (I c.asked),some (I c.best),some (.str (.k c.lb)),some (.str (.k c.nl)),some (.bool c.wide),some (.bool c.apart),some (.bool c.shut),some (.str (.k (cY c))),some (.str (.k y.due)),some (.bool y.narrow),some (.bool y.oe)]
noncomputable def cL:Nat→Nat→List AV
 |_,0=>[]
 |i,n+1=>.any i::cL (i+1) n
def kr(n i:Nat):AV:=Bool.rec (I 0) (.any (60+i)) (Nat.blt i n)
def oY(t:Nat)(a b c d:AV):List (Str×AV):=[(iX,I t),(iG,a),(tN,b),(ua,c),(s7,d)]
noncomputable def qk(n t:Nat):List AV:=aP 4 (bk (4*t) (cL 60 n))
noncomputable def rY:List AV:=[I 0,I 0,I 0,I 0]
def Hk(n t:Nat):bO:=⟨[],bj,3,[],⟨sW [(iX,I t)],ay⟩,[.list (cL 60 n),.any 1,.any 2],[bT 0],.next,19,sW (oY t (kr n (4*t)) (kr n (4*t+1)) (kr n (4*t+2)) (kr n (4*t+3))),
 [.list (cL 60 n),.any 1,.any 2,.list (qk n t),.list rY,.list (qk n t++rY),.list (aP 4 (qk n t++rY))]⟩
theorem Qe:((List.range 13).all fun n=>[0,1,2].all fun t=>(Hk n t).chk)=true:=by kernel_rfl
end
section
section
structure Gz (Γ:ar) (n:Nat) (ss:List Stmt) (ls:ac) (σ:St) (f:Fl) (ls':ac) (σ':St):Prop where
 h:dX Γ n (fun c=>execs ss c.env) ls σ f ls' σ'
theorem Dz.gz(h:aQ Γ n ss ls σ f ls' σ')(hn:n≤n'):Gz Γ n' ss ls σ f ls' σ':=⟨dX.le hn (bt.goes h.h)⟩
theorem Gz.app(h1:Gz Γ n a ls σ .next ls1 σ1)(h2:Gz Γ n b ls1 σ1 f ls2 σ2):Gz Γ n (a++b) ls σ f ls2 σ2:=⟨by
 intro c A s m imm cs Q E C l R k;show wpAny _ _ (execs (a++b) c.env) _ _ _;rw[zI];refine wpAny_bind (h1.h C l R fun hx tx mx ix cx fl Rx lx xx fx=>?_);(obtain e:_=_:=FR.inv fx;subst e);exact h2.h C lx (s:={s with heap:=hx,toks:=tx}) Rx fun h2 t2 m2 i2 c2 fl R2 l2 x2 f2=>k h2 t2 m2 i2 c2 fl R2 l2 (fun p hp=>x2 p (xx p hp)) f2⟩
noncomputable def CW(x:AV):Bool:=match x with|.str _=>true|_=>false
theorem wY{α:Type}{f:α→List AV}{p:AV→Bool}{l:List α}(h:(l.flatMap f).all p=true):∀ x∈l,(f x).all p=true:=fun x hx=>List.all_eq_true.mpr fun y hy=>aq h y (List.mem_flatMap.mpr ⟨x,hx,hy⟩)
theorem wp{α:Type}{f:α→α}{l:List α}(h:∀ x∈l,f x=x):l.map f=l:=(List.map_congr_left h).trans (List.map_id l)
theorem R7(idx:List Nat):∀ x,(lv x).all CW=true→flA (gU idx) x=x:=by
 refine AV.ind ?_ ?_ ?_ ?_ ?_ ?_ ?_ ?_ ?_ ?_ ?_ ?_ ?_ ?_
 ·exact fun U=>rfl
 ·exact fun U U=>rfl
 ·exact fun U U=>rfl
 ·exact fun U U=>rfl
 ·exact fun U h=>by injection h
 ·exact fun xs ih h=>by
   rw[zD] at h;rw[Bm];exact congrArg AV.tup (wp fun x hx=>ih x hx (wY h x hx))
 ·exact fun C fs ih h=>by
   rw[Bo] at h;rw[Af];exact congrArg (AV.obj C) (wp fun q hq=>Prod.ext rfl (ih q hq (wY h q hq)))
 ·exact fun es ih h=>by
   rw[yB] at h;rw[Aa];exact congrArg AV.dict (wp fun q hq=>Prod.ext rfl (ih q hq (wY h q hq)))
 ·exact fun U U=>rfl
 ·exact fun U U=>rfl
 ·exact fun U U=>rfl
 ·exact fun f v ih h=>congrArg (AV.meth f) (ih h)
 ·exact fun U h=>by injection h
 ·exact fun U U=>rfl
noncomputable def dB(xs:List AV):Prop:=(hH xs).all CW=true
def Ei(idx:List Nat)(x:AV):Bool:=match x with|.cell k=>aK k idx|_=>true
noncomputable def qR(σ:St):List Nat→List (List AV)→Prop
 |[],[]=>True
 |i::r,xs::t=>(ak σ i=some (.list xs)∧dB xs)∧qR σ r t
 |_,_=>False
theorem qR.all:∀ {js:List Nat} {τ:List (List AV)},qR σ js τ→(js.all fun i=>Nat.blt i (aA σ))=true∧(js.all fun i=>(pW (md σ i)).all (Ei idx))=true∧(js.map fun i=>fC (gU idx) (md σ i))=τ.map .list
 |[],[],_=>⟨rfl,rfl,rfl⟩
 |i::r,xs::t,⟨⟨h1,h2⟩,h3⟩=>by
  apply d5 (qR.all h3);intro i1 i2 i3;have c:md σ i=.list xs:=by unfold md;rw[h1]
  refine⟨?_,?_,?_⟩
  ·rw[List.all_cons,i1,b7,show Nat.blt i σ.length=true from Nat.ble_eq_true_of_le (A0 h1)];rfl
  ·rw[List.all_cons,i2,c,Bool.and_true]
   refine List.all_eq_true.mpr fun x hx=>?_;have:=aq h2 x hx;induction x using AV.casesOn<;>first|rfl|injection this
  ·rw[List.map_cons,i3,c]
   exact congrArg (·::_) (congrArg aw.list (wp fun x hx=>R7 idx x (wY h2 x hx)))
theorem Gz.pick{Γ:ar}(he:Γ.ε.Ok)(idx:List Nat)(τ:List (List AV))(H:Gz Γ n ss ls σ .next ⟨l0,sc⟩ σ')(hs:sc=ls.sc)(hn:l8 idx=true)(h:qR σ' idx τ)(hl:(dc l1).all (Ei idx)=true)(sub:∀ x v,lk x l1=some v→lk x l0=some v) :
  Gz Γ n ss ls σ .next ⟨fQ (gU idx) l1,sc⟩ (τ.map .list):=by
 apply d5 (h.all);intro o2 o3 e;have ok:uX idx l1 σ'=true:=Bool.and_eq_true_iff.mpr ⟨hn,Bool.and_eq_true_iff.mpr ⟨o2,Bool.and_eq_true_iff.mpr ⟨o3,hl⟩⟩⟩;have G:dX Γ n (fun c=>execs ss c.env) ls σ .next ⟨fQ (gU idx) l1,sc⟩ (pJ idx σ'):=dX.pick (ls1:=⟨l1,sc⟩) he hs sub ok H.h;rw[show pJ idx σ'=τ.map .list from e] at G;exact⟨@G⟩
noncomputable def tI(N:List Nat):List AV:=N.map fun n=>I (.ofNat n)
def bP(N:List Nat)(i:Nat):Nat:=(ak N i).getD 0
theorem zM:∀ (N:List Nat) (i:Nat),(∀ j n,ak N j=some n→v (i+j)=I n)→aO (ai ε v z) (cL i N.length)=tI N:=by
 intro L0;induction L0 with
 |nil=>
  intro _ _;exact rfl
 |cons a r ih=>
  intro i h;show v i::aO (ai ε v z) (cL (i+1) r.length)=I a::tI r;rw[ih (i+1) fun j n hj=>by rw[show i+1+j=i+(j+1) by lia];exact h (j+1) n hj,show v i=I a from h 0 a rfl]
theorem hY(N:List Nat):dB (tI N):=by
 induction N with
 |nil=>rfl
 |cons a r ih=>exact ih
def vN(c:Lk)(y:Lm)(N:List Nat):Nat→AV:=ke c y fun k=>I (bP N (k-60))
theorem AJ(c:Lk)(y:Lm)(N:List Nat)(j:Nat):vN c y N (60+j)=I (bP N j):=by
 unfold vN ke;rw[pT (show 20+11≤60+j from Nat.le_add_right_of_le (by decide)),Nat.add_sub_cancel_left]
theorem wN(i:Nat):flA (ai ε (vN c y N) z) (kr N.length i)=I (bP N i):=by
 unfold kr;cases h:Nat.blt i N.length with
 |true=>exact AJ c y N i
 |false=>
  have:ak N i=none:=by
   rw[dH];exact List.getElem?_eq_none (Nat.le_of_not_lt fun q=>by rw[show Nat.blt i N.length=true from Nat.ble_eq_true_of_le q] at h;injection h)
  unfold bP;rw[this];rfl
section
variable {w:World}{mg mb:Str→Option Value}{ε0:Ev}(hw:ε0.P=w.params)
include hw
theorem Sm{c:Lk}{y:Lm}{N:List Nat}{t:Nat}{E T:aw}(hN:N.length≤12)(ht:t<3) :
  ∃ more,aQ (ab w mg mb ε0) 150 [bT 0] ⟨bG c y [(iX,I t)],ay⟩ [.list (tI N),E,T] .next ⟨bG c y (oY t (I (bP N (4*t))) (I (bP N (4*t+1))) (I (bP N (4*t+2))) (I (bP N (4*t+3)))),ay⟩ ([.list (tI N),E,T]++more):=by
 have hj:=aq (aq Qe N.length (eU (by lia))) t (show t∈List.range 3 from eU ht);have ea:∀ z,aO (ai (dz ε0.P (fun U=>0) fun U=>[]) (vN c y N) z) (cL 60 N.length)=tI N:=fun z=>zM N 60 fun j n hj=>by
  rw[AJ];unfold bP;rw[hj];rfl
 refine⟨bC (ai (dz ε0.P (fun U=>0) fun U=>[]) (vN c y N) (tn T [T,E])) [.list (qk N.length t),.list rY,.list (qk N.length t++rY),.list (aP 4 (qk N.length t++rY))],
  (ck (v:=vN c y N) (z:=(tn T [T,E])) hw (ε:=dz ε0.P (fun U=>0) fun U=>[]) rfl (bM _ _ _) (Hk N.length t) (fun U U h=>by injection h) ⟨rfl,(by decide:3≤12),rfl⟩ hj).cast ?_ ?_ rfl ?_ ?_⟩
 ·show (⟨bG c y [(iX,.int (.k ((am.k t).val _)))],ay⟩ : ac)=_
  rw[bV];rfl
 ·show [aw.list (aO _ (cL 60 N.length)),E,T]=_
  rw[ea]
 ·show (⟨bG c y [(iX,.int (.k ((am.k t).val _))),(iG,flA _ (kr N.length (4*t))),(tN,flA _ (kr N.length (4*t+1))),(ua,flA _ (kr N.length (4*t+2))),(s7,flA _ (kr N.length (4*t+3)))],ay⟩ : ac)=_
  rw[bV,wN,wN,wN,wN];rfl
 ·show [aw.list (aO _ (cL 60 N.length)),E,T]++_=_
  rw[ea];rfl
end
end
end
section
section
structure Iq where
 ts:List Expr
 f:Str
 fp:Pos
 as:List Expr
 cp:Pos
 p:Pos
def Mc(s:Stmt):Iq:=match s with|.Assign ts (.Call (.Name x q) as _ cp) p=>⟨ts,x,q,as,cp,p⟩|_=>⟨[],n0,default,[],default,default⟩
def jh:Iq:=Mc (bT 2)
theorem Mz:bT 2=.Assign jh.ts (.Call (.Name jh.f jh.fp) jh.as [] jh.cp) jh.p:=by kernel_rfl
def jP(t f a b d p:Nat):List (Str×AV):=oY t (I f) (I a) (I b) (I d)++[(tu,I p)]
theorem CF(a b:Nat):Int.fmod (a:Int) (b:Int)=((a % b:Nat):Int):=by rw[Int.fmod_eq_emod_of_nonneg _ (bK b)];push_cast;rfl
theorem H4(ps:bN):dB (dk ps):=by
 induction ps with
 |nil=>rfl
 |cons p r ih=>exact ih
section
variable {w:World}{mg mb:Str→Option Value}{ε0:Ev}(hw:ε0.P=w.params)(he:ε0.Ok)
include hw he
theorem Q7{c:Lk}{y:Lm}{t f a b d:Nat}{σ:St}:aQ (ab w mg mb ε0) 150 [bT 1] ⟨bG c y (oY t (I f) (I a) (I b) (I d)),ay⟩ σ .next ⟨bG c y (jP t f a b d (f % 4)),ay⟩ σ:=by
 have e:(cX [] bj 3).exs ⟨bG c y (oY t (I f) (I a) (I b) (I d)),ay⟩ σ [bT 1]=some (.next,⟨bG c y (oY t (I f) (I a) (I b) (I d)++[(tu,.int (.k (Int.fmod (f:Int) ((4:Nat):Int))))]),ay⟩,σ):=by kernel_rfl
 rw[CF] at e;exact yE hw he (by decide) e
theorem NR(ha:a<5040)(hb:b<5040)(hd:d<5040) :
  ∃ j more,aQ (ab w mg mb ε0) 180 [bT 2] ⟨bG c y (jP t f a b d p),ay⟩ [D,E,T] .next ⟨bG c y (jP t f a b d p++[(fh,.cell j)]),ay⟩ ([D,E,T]++more)∧3≤j∧ak ([D,E,T]++more) j=some (.list (dk (mW (f*1733 % 5040 / 4 % 4) (iI (3-f*1733 % 5040 / 16 % 4) a b d)))):=by
 obtain⟨j,more,⟨g1,R⟩,h1,h2⟩:=KR (mg:=mg) (mb:=mb) (z:=(tn T [D,E])) (F:=f*1733 % 5040) hw he ha hb hd;refine⟨j,.list [I a,I b,I d]::more,?_,Nat.le_of_succ_le h1,h2⟩;have P:=mZ (mg:=mg) (mb:=mb) hw he;have A:=gu P 300 13;replace R:Rz (ab w mg mb ε0) (10*13+0+25) [D,E,T,.list [I a,I b,I d]] 834 [.int (.k (Int.fmod ((f*1733:Nat):Int) ((5040:Nat):Int))),.cell 3] (.cell j) ([D,E,T]++.list [I a,I b,I d]::more):=by rw[CF];exact R
 have Y:=Kj (P:=P) (N:=300) (d:=13) (ls:=⟨bG c y (jP t f a b d p),ay⟩) (x:=jh.f) (q:=jh.fp) (cp:=jh.cp) (as:=jh.as) (σ:=[D,E,T]) g1 R (by kernel_rfl) (by kernel_rfl) (by kernel_rfl);replace D:=Dz.asg (pos:=jh.p) (ts:=jh.ts) (ls1:=⟨bG c y (jP t f a b d p++[(fh,.cell j)]),ay⟩) (σ2:=[D,E,T]++.list [I a,I b,I d]::more) A.E A.S (by kernel_rfl) Y (by kernel_rfl);rw[←Mz] at D;exact D.one.le (by decide)
theorem Ol{c:Lk}{y:Lm}{N:List Nat}{t:Nat}{ev tp:List AV}(hN:N.length≤12)(ht:t<3)(h5:∀ n∈N,n<5040)(f1:dB ev)(f2:dB tp) :
  Gz (ab w mg mb ε0) 300 ([bT 0]++([bT 1]++[bT 2])) ⟨bG c y [(iX,I t)],ay⟩ [.list (tI N),.list ev,.list tp] .next
   ⟨bG c y (jP t (bP N (4*t)) (bP N (4*t+1)) (bP N (4*t+2)) (bP N (4*t+3)) (bP N (4*t) % 4)++[(fh,.cell 3)]),ay⟩
   [.list (tI N),.list ev,.list tp,.list (dk (mW (bP N (4*t)*1733 % 5040 / 4 % 4) (iI (3-bP N (4*t)*1733 % 5040 / 16 % 4) (bP N (4*t+1)) (bP N (4*t+2)) (bP N (4*t+3)))))]:=by
 have h5:∀ i,bP N i<5040:=fun i=>by
  unfold bP;cases h:ak N i with
  |none=>show 0<5040;decide
  |some n=>rw[dH] at h;exact h5 n (List.mem_of_getElem? h)
 apply bx (Sm (mg:=mg) (mb:=mb) (c:=c) (y:=y) (E:=.list ev) (T:=.list tp) hw hN ht);intro more D1;have G1:=D1.gz (n':=300) (by decide);generalize bP N (4*t)=f at *
 generalize hA:bP N (4*t+1)=a at *
 generalize hB:bP N (4*t+2)=b at *
 generalize hC:bP N (4*t+3)=d at *
 have G1:=G1.pick he [0,1,2] [tI N,ev,tp] (l1:=bG c y (oY t (I f) (I a) (I b) (I d))) rfl rfl ⟨⟨rfl,hY N⟩,⟨rfl,f1⟩,⟨rfl,f2⟩,trivial⟩ rfl fun U U h=>h;have G2:=(Q7 (mg:=mg) (mb:=mb) (c:=c) (y:=y) (t:=t) (f:=f) (a:=a) (b:=b) (d:=d) (σ:=[.list (tI N),.list ev,.list tp]) hw he).gz (n':=300) (by decide);apply ir (NR (mg:=mg) (mb:=mb) (c:=c) (y:=y) (t:=t) (f:=f) (p:=f % 4) (D:=.list (tI N)) (E:=.list ev) (T:=.list tp) hw he (hA▸h5 _) (hB▸h5 _) (hC▸h5 _));intro j more D3 hj hat;obtain⟨m,rfl⟩ : ∃ m,j=m+3:=⟨j-3,by lia⟩;have hb:Nat.beq (m+3) (m+3)=true:=Nat.beq_refl _;have G3:=(D3.gz (n':=300) (by decide)).pick he [0,1,2,m+3] [tI N,ev,tp,_] (l1:=bG c y (jP t f a b d (f % 4)++[(fh,.cell (m+3))])) rfl rfl ⟨⟨rfl,hY N⟩,⟨rfl,f1⟩,⟨rfl,f2⟩,⟨hat,H4 _⟩,trivial⟩ (by
  show (aK (m+3) [0,1,2,m+3]&&true)=true;rw[o9.mpr (.tail _ (.tail _ (.tail _ (.head _))))];rfl) fun U U h=>h
 have e:fQ (gU [0,1,2,m+3]) (bG c y (jP t f a b d (f % 4)++[(fh,.cell (m+3))]))=bG c y (jP t f a b d (f % 4)++[(fh,.cell 3)]):=by
  show bG c y (jP t f a b d (f % 4))++[(fh,.cell (Nat.succ (Nat.succ (Nat.succ (Bool.rec (Nat.succ 0) 0 (Nat.beq (m+3) (m+3)))))))]=_;rw[hb];rfl
 rw[e] at G3;exact G1.app (G2.app G3)
end
end
end
section
noncomputable def lY:Nat→Nat→List AV
 |_,0=>[]
 |i,m+1=>.tup [.str [.var (2*i)],.str [.var (2*i+1)]]::lY (i+1) m
noncomputable def AB:Nat→Nat→List AV
 |_,0=>[]
 |i,m+1=>.str [.var (2*i),.var (2*i+1)]::AB (i+1) m
noncomputable def tc:Nat→Nat→SS
 |_,0=>[]
 |i,m+1=>.var (2*i)::.var (2*i+1)::tc (i+1) m
noncomputable def β5:Bd:=[(0,0),(0,20),(0,0),(0,20),(0,0),(0,20),(0,0),(0,20),(0,0),(0,20),(0,0),(0,20),(0,0),(0,20),(0,0),(0,20),(0,0),(0,20),(0,0),(0,20),(0,0),(0,2),(0,0),(0,5000),(0,0),(0,5000)]
def tq(m:List (Str×AV)):List (Str×AV):=[(iX,.any 31),(iG,.any 32),(tN,.any 33),(ua,.any 34),(s7,.any 35),(tu,.any 36)]++m
noncomputable def jA(m:Nat):St:=[.any 0,.any 1,.any 2,.list (lY 0 m)]
def Jl(m:Nat):bO:=⟨β5,bj,3,[],⟨sW (tq [(fh,.cell 3)]),ay⟩,jA m,[bT 3],.next,22,sW (tq [(fh,.cell 3),(cT,.str (tc 0 m))]),jA m++[.list (AB 0 m)]⟩
def IY(b l u:AV)(m:List (Str×AV)):List (Str×AV):=dO (.cell 2) (.cell 0) (.any 20) b (.any 22) l u (.any 25) (.any 26) (.any 27) (.cell 1) (.any 28) (.any 29) (.any 30)++m
noncomputable def EF(m best:Nat)(u:Bool):List uj:=[⟨some (jA m),829,[.cell 3,I best,I best,.bool u,.str [.var 10]],.str [.var 11]⟩,⟨some (jA m),829,[.cell 3,I best,I (2*best:Nat),.bool u,.str [.var 10]],.str [.var 12]⟩]
def Ig(m best:Nat)(u:Bool):bO:=⟨β5,kB (EF m best u),3,[],⟨IY (I best) (.str [.var 10]) (.bool u) (tq [(fh,.cell 3),(cT,.any 37)]),ay⟩,jA m,[bT 4,bT 5],.next,24,IY (I best) (.str [.var 10]) (.bool u) (tq [(fh,.cell 3),(cT,.any 37),(hO,.str [.var 11]),(hV,.str [.var 12])]),jA m⟩
theorem JU:((List.range 6).all fun m=>m7 β5 (fX (jA m)))=true:=by kernel_rfl
theorem RA:((List.range 6).all fun m=>(Jl m).chk)=true:=by kernel_rfl
theorem QI:((List.range 6).all fun m=>fN.all fun b=>tf.all fun u=>(Ig m b u).chk)=true:=by kernel_rfl
end
section
section
theorem B6(h:d4 ps):ps.length≤5∧∀ p∈ps,p.1.length≤20∧p.2.length≤20:=by
 have rep:∀ n:Nat,∀ p∈List.replicate n (([],[10]):List Nat×List Nat),p.1.length≤20∧p.2.length≤20:=fun n p hp=>by rw[List.eq_of_mem_replicate hp];exact⟨Nat.zero_le _,by decide⟩
 cases h with
 |none h=>rw[List.length_replicate];exact⟨by lia,rep _⟩
 |@some b q cl h1 h2 h3 h4 h5=>
  refine⟨by rw[ax,bb,List.length_replicate];lia,fun p hp=>?_⟩;rcases ey hp with hp|hp
  ·refine⟨Nat.le_trans (h2 p hp).l (by decide),?_⟩
   rcases (h2 p hp).e with e|e<;>rw[e]<;>decide
  ·rcases bU hp with rfl|hp
   ·exact⟨Nat.le_trans h3 (by decide),Nat.le_trans (IU cl).2 (by decide)⟩
   ·exact rep _ p hp
section
variable {ε:Ev}{v:Nat→AV}{z:Nat→aw}
noncomputable abbrev sy (ε:Ev) (i:Nat) (ps:bN):Prop:=∀ j p,ak ps j=some p→ε.sv (2*(i+j))=p.1∧ε.sv (2*(i+j)+1)=p.2
theorem JP(h:sy ε i (q::ps)):(ε.sv (2*i)=q.1∧ε.sv (2*i+1)=q.2)∧sy ε (i+1) ps :=
 ⟨h 0 q rfl,fun j p hp=>by rw[show i+1+j=i+(j+1) by lia];exact h (j+1) p hp⟩
theorem yQ:∀ {ps:bN} {i:Nat},sy ε i ps→aO (ai ε v z) (lY i ps.length)=dk ps∧(tc i ps.length).val ε=au ps:=by
 intro L0;induction L0 with
 |nil=>
  intro _ _;exact⟨rfl,rfl⟩
 |cons q ps ih=>
  intro i h;obtain⟨⟨h1,h2⟩,h3⟩:=JP h;apply aN (ih h3);intro i1 i2;constructor
  ·show AV.tup [.str (.k (ε.sv (2*i)++[])),.str (.k (ε.sv (2*i+1)++[]))]::aO (ai ε v z) (lY (i+1) ps.length)=_
   rw[i1,h1,h2,af,af];rfl
  ·show ε.sv (2*i)++(ε.sv (2*i+1)++(tc (i+1) ps.length).val ε)=_
   rw[i2,h1,h2];exact(aX ..).symm
end
def gA(ps:bN)(k:Nat):List Nat:=match ak ps (k / 2) with|some p=>Bool.rec p.2 p.1 (Nat.beq (k % 2) 0)|none=>[]
def ε5(P:Params)(ps:bN)(a b c:List Nat):Ev:=dz P (fun U=>0) (tn [] [gA ps 0,gA ps 1,gA ps 2,gA ps 3,gA ps 4,gA ps 5,gA ps 6,gA ps 7,gA ps 8,gA ps 9,a,b,c])
theorem CZ{ps:bN}(h:ps.length≤5):sy (ε5 P ps a b c) 0 ps:=fun j p hp=>by
 have hj:=A0 hp;rw[Nat.zero_add];have key:gA ps (2*j)=p.1∧gA ps (2*j+1)=p.2:=by
  unfold gA;rw[show 2*j / 2=j by lia,show (2*j+1) / 2=j by lia,show 2*j % 2=0 by lia,show (2*j+1) % 2=1 by lia,hp];exact⟨rfl,rfl⟩
 have:j=0∨j=1∨j=2∨j=3∨j=4:=by lia
 rcases this with rfl|rfl|rfl|rfl|rfl<;>exact key
theorem kH(h:∀ p∈ps,p.1.length≤20∧p.2.length≤20)(k:Nat):(0:Int)≤(gA ps k).length∧((gA ps k).length:Int)≤20:=by
 refine⟨bK _,eP ?_⟩;unfold gA;cases e:ak ps (k / 2) with
 |none=>exact Nat.zero_le _
 |some p=>
  rw[dH] at e;have:=h p (List.mem_of_getElem? e);cases Nat.beq (k % 2) 0
  ·exact this.2
  ·exact this.1
theorem ED{a b c:List Nat}(h:∀ p∈ps,p.1.length≤20∧p.2.length≤20)(ha:a.length≤2)(hb:b.length≤5000)(hc:c.length≤5000):aM β5 (ε5 P ps a b c):=gx (by
 have e0:(0:Int)≤0∧(0:Int)≤0:=⟨bz _,bz _⟩;exact⟨e0,kH h 0,e0,kH h 1,e0,kH h 2,e0,kH h 3,e0,kH h 4,e0,kH h 5,e0,kH h 6,e0,kH h 7,e0,kH h 8,e0,kH h 9,e0,⟨bK _,eP ha⟩,e0,⟨bK _,eP hb⟩,e0,⟨bK _,eP hc⟩,trivial⟩)
structure gK (c:Lk):Prop where
 b:c.best∈fN
 n:1≤c.nl.length∧c.nl.length≤2
noncomputable def aE(c:Lk)(bw:Int):Gs:=⟨c.wide,c.best,c.nl,bw⟩
theorem oG(h:gK c):eX (aE c 0):=⟨h.b,h.n,(by decide:(0:Int)≤0∧(0:Int)≤1000)⟩
theorem pk(hc:gK c)(h:d4 ps)(hi:2≤ind∧ind≤20):(bH (aE c 0) ind ps).length≤5000:=by
 have e:=vc (g:=aE c 0) (ind:=ind) h;have l:=t9 (oG hc) (jW h).t (ind:=ind) ⟨hi.1,by have:=hi.2;lia⟩;have l2:(cW (aE c 0) (aD (aE c 0) (au ps))).length≤2:=by unfold cW;cases aD (aE c 0) (au ps);exact hc.n.2;exact Nat.zero_le _
 have:=congrArg List.length e;rw[bb,ax] at this;lia
structure Tn where
 t:Nat
 f:Nat
 a:Nat
 b:Nat
 d:Nat
 p:Nat
def dF(x:Tn)(m:List (Str×AV)):List (Str×AV):=jP x.t x.f x.a x.b x.d x.p++((fh,.cell 3)::m)
def vT(c:Lk)(y:Lm)(x:Tn)(o:Nat→AV):Nat→AV:=ke c y (tO o 31 [some (I x.t),some (I x.f),some (I x.a),some (I x.b),some (I x.d),some (I x.p)])
section
variable {w:World}{mg mb:Str→Option Value}{ε0:Ev}(hw:ε0.P=w.params)(he:ε0.Ok)
include hw
theorem RL(h:d4 ps) :
  ∃ more,aQ (ab w mg mb ε0) 150 [bT 3] ⟨bG c y (dF x []),ay⟩ [D,E,T,.list (dk ps)] .next ⟨bG c y (dF x [(cT,.str (.k (au ps)))]),ay⟩ ([D,E,T,.list (dk ps)]++more):=by
 apply aN (B6 h);intro h1 h2;have hj:=aq RA ps.length (eU (by lia));apply aN (yQ (v:=vT c y x fun U=>.none) (z:=(tn T [D,E])) (CZ (P:=ε0.P) (a:=[]) (b:=[]) (c:=[]) h1));intro e1 e2;refine⟨bC (ai (ε5 ε0.P ps [] [] []) (vT c y x fun U=>.none) (tn T [D,E])) [.list (AB 0 ps.length)],
  (ck (v:=vT c y x fun U=>.none) (z:=(tn T [D,E])) hw (ε:=ε5 ε0.P ps [] [] []) rfl (bM _ _ _) (Jl ps.length) (ED h2 (by decide) (by decide) (by decide)) ⟨rfl,(by decide:3≤12),rfl⟩ hj).cast rfl ?_ rfl ?_ ?_⟩
 ·show [D,E,T,aw.list (aO _ (lY 0 ps.length))]=_
  rw[e1]
 ·show (⟨bG c y (dF x [(cT,.str (.k ((tc 0 ps.length).val _)))]),ay⟩ : ac)=_
  rw[e2]
 ·show [D,E,T,aw.list (aO _ (lY 0 ps.length))]++_=_
  rw[e1];rfl
include he
theorem Lp(hc:gK c)(h:d4 ps) :
  aQ (ab w mg mb ε0) 220 [bT 4,bT 5] ⟨bG c y (dF x [(cT,v)]),ay⟩ [D,E,T,.list (dk ps)] .next ⟨bG c y (dF x [(cT,v),(hO,.str (.k (bH (aE c 0) c.best ps))),(hV,.str (.k (bH (aE c 0) (2*c.best:Nat) ps)))]),ay⟩ [D,E,T,.list (dk ps)]:=by
 apply aN (B6 h);intro h1 h2;have hj:=aq (aq (aq QI ps.length (eU (by lia))) c.best hc.b) c.wide (cU _);have hb:=je (oG hc);replace hb:2≤(c.best:Int)∧(c.best:Int)≤9:=hb;have r1:2≤(c.best:Int)∧(c.best:Int)≤20:=⟨hb.1,by lia⟩;have r2:2≤((2*c.best:Nat):Int)∧((2*c.best:Nat):Int)≤20:=⟨by lia,by lia⟩;generalize hε:ε5 ε0.P ps c.nl (bH (aE c 0) c.best ps) (bH (aE c 0) (2*c.best:Nat) ps)=ε;have hsv:sy ε 0 ps:=by rw[←hε];exact CZ h1
 have hok:ε.Ok:=by rw[←hε];exact bM _ _ _
 have hP:ε.P=ε0.P:=by rw[←hε];rfl
 have hbd:aM β5 ε:=by rw[←hε];exact ED h2 hc.n.2 (pk hc h r1) (pk hc h r2)
 have h10:ε.sv 10=c.nl:=by rw[←hε];rfl
 have h11:ε.sv 11=bH (aE c 0) c.best ps:=by rw[←hε];rfl
 have h12:ε.sv 12=bH (aE c 0) (2*c.best:Nat) ps:=by rw[←hε];rfl
 have hf:∀ ov cv,ja (ab w mg mb (ε.wO ov cv)) 160 (kB (EF ps.length c.best c.wide)):=fun ov cv=>wy fun q hq=>by
  have hw':(ε.wO ov cv).P=w.params:=hP.trans hw;have hok':(ε.wO ov cv).Ok:=fun i=>hok i;have hbd':aM β5 (ε.wO ov cv):=fun i p h=>hbd i p h;have e1:=(yQ (ε:=ε.wO ov cv) (v:=.any) (z:=.any) hsv).1;have go:∀ (ind:Nat) (k:Nat),2≤(ind:Int)∧(ind:Int)≤20→ε.sv k=bH (aE c 0) ind ps→ze (ab w mg mb (ε.wO ov cv)) 185 ⟨some (jA ps.length),829,[.cell 3,I c.best,I ind,.bool c.wide,.str [.var 10]],.str [.var k]⟩:=fun ind k hi hk=>by
   have H:=Kx (mg:=mg) (mb:=mb) (z:=.any) hw' hok' (oG hc) (jW h) hi;refine⟨H.1,fun σ hσ=>?_⟩;obtain rfl:σ=jA ps.length:=rN hσ;refine Rz.unz (Γ:=ab w mg mb (ε.wO ov cv)) hok' hbd' ?_ (H.2.cast ?_ ?_ ?_ ?_)
   ·show m7 β5 ([.str [.var k]]++fX (jA ps.length))=true
    exact aq JU ps.length (eU (by lia))
   ·show _=[aw.any 0,.any 1,.any 2,.list (aO _ (lY 0 ps.length))]
    rw[←e1];rfl
   ·show _=[AV.cell 3,.int (.k ((am.k c.best).val _)),.int (.k ((am.k ind).val _)),.bool c.wide,.str (.k (ε.sv 10++[]))]
    rw[bV,bV,h10,af];rfl
   ·show _=AV.str (.k (ε.sv k++[]))
    rw[hk,af]
   ·show _=[aw.any 0,.any 1,.any 2,.list (aO _ (lY 0 ps.length))]
    rw[←e1];rfl
  rcases bU hq with rfl|hq
  ·exact go c.best 11 r1 h11
  ·rw[cH hq];exact go (2*c.best) 12 r2 h12
 apply aN (yQ (v:=vT c y x fun U=>v) (z:=(tn T [D,E])) hsv);intro e1 _;have es:bC (ai ε (vT c y x fun U=>v) (tn T [D,E])) (jA ps.length)=[D,E,T,.list (dk ps)]:=by
  show [D,E,T,aw.list (aO _ (lY 0 ps.length))]=_;rw[e1]
 refine((sM (mg:=mg) (mb:=mb) (b:=160) (v:=vT c y x fun U=>v) (z:=(tn T [D,E])) hw hP hok (Ig ps.length c.best c.wide) hbd (fun ov cv U=>hf ov cv) rfl hj).le (by show 10*3+160+30≤220;decide)).cast ?_ es rfl ?_ es
 ·show (⟨dO (.cell 2) (.cell 0) (I c.asked) (.int (.k ((am.k c.best).val _))) (.str (.k c.lb)) (.str (.k (ε.sv 10++[]))) _ _ _ _ _ _ _ _++dF x [(cT,v)],ay⟩ : ac)=_
  rw[bV,h10,af];rfl
 ·show (⟨dO (.cell 2) (.cell 0) (I c.asked) (.int (.k ((am.k c.best).val _))) (.str (.k c.lb)) (.str (.k (ε.sv 10++[]))) _ _ _ _ _ _ _ _++dF x [(cT,v),(hO,.str (.k (ε.sv 11++[]))),(hV,.str (.k (ε.sv 12++[])))],ay⟩ : ac)=_
  rw[bV,h10,h11,h12,af,af,af];rfl
end
end
end
section
section
noncomputable def β6:Bd:=[(0,0),(0,40),(0,0),(0,0),(2,9)]
def Ca(u na oe:AV)(m:List (Str×AV)):List (Str×AV):=dO (.cell 2) (.cell 0) (.any 20) (.int (V 4)) (.any 22) (.any 23) u (.any 25) (.any 26) (.any 27) (.cell 1) (.any 28) na oe++tq ([(fh,.cell 3),(cT,.str [.var 0]),(hO,.any 38),(hV,.any 39)]++m)
def H1(u st:Bool)(h:List Nat):List uj:=⟨none,810,[.str [.var 0],.bool u],.bool st⟩::Bool.rec [] [⟨none,824,[.str [.var 0],.int (V 4)],.str (.k h)⟩] st
def wA(u na st:Bool)(h:List Nat):bO:=⟨β6,kB (H1 u st h),3,[],⟨Ca (.bool u) (.bool na) (.any 30) [],ay⟩,ik 0 4,[bT 6,bT 7,bT 8,bT 9],.next,26,Ca (.bool u) (.bool (na&&st)) (.bool (st&&nv h)) [(mw,.bool st),(lj,dq (.str [.var 0]))],ik 0 4⟩
theorem S7:(tf.all fun u=>tf.all fun na=>(wA u na false []).chk&&(tM.all fun h=>(wA u na true h).chk))=true:=by kernel_rfl
def gH(σ:St)(k:Nat):aw:=(ak σ k).getD (.list [])
section
variable {w:World}{mg mb:Str→Option Value}{ε0:Ev}(hw:ε0.P=w.params)(he:ε0.Ok)
include hw
theorem Kt(hc:gK c)(hv:gF v) :
  aQ (ab w mg mb ε0) 190 [bT 6,bT 7,bT 8,bT 9] ⟨bG c y (dF x [(cT,.str (.k v)),(hO,.str (.k n)),(hV,.str (.k f))]),ay⟩ [D,E,T,U] .next
   ⟨bG c ⟨y.due,y.narrow&&aD (aE c 0) v,cO (aE c 0) v⟩ (dF x [(cT,.str (.k v)),(hO,.str (.k n)),(hV,.str (.k f)),(mw,.bool (aD (aE c 0) v)),(lj,dq (.str (.k v)))]),ay⟩ [D,E,T,U]:=by
 have hb:2≤(c.best:Int)∧(c.best:Int)≤9:=je (oG hc);generalize hε:dz ε0.P (tn 0 [0,0,(c.best:Int)]) (tn [] [v])=ε;have hok:ε.Ok:=by rw[←hε];exact bM _ _ _
 have hP:ε.P=ε0.P:=by rw[←hε];rfl
 have h0:ε.sv 0=v:=by rw[←hε];rfl
 have h4:ε.iv 4=c.best:=by rw[←hε];rfl
 have hbd:aM β6 ε:=by
  rw[←hε];exact gx ⟨⟨bz 0,bz 0⟩,⟨bK _,eP hv.len⟩,⟨bz 0,bz 0⟩,⟨bz 0,bz 0⟩,hb,trivial⟩
 have l400:v.length≤400:=Nat.le_trans hv.len (by decide);have st0:aD (aE c 0) v=(!aF v&&dT c.wide v):=rfl;have key:∀ h,(aD (aE c 0) v=true→h=cI c.best v)→(wA c.wide y.narrow (aD (aE c 0) v) h).chk=true→(aD (aE c 0) v&&nv h)=cO (aE c 0) v →
   aQ (ab w mg mb ε0) 190 [bT 6,bT 7,bT 8,bT 9] ⟨bG c y (dF x [(cT,.str (.k v)),(hO,.str (.k n)),(hV,.str (.k f))]),ay⟩ [D,E,T,U] .next
   ⟨bG c ⟨y.due,y.narrow&&aD (aE c 0) v,cO (aE c 0) v⟩ (dF x [(cT,.str (.k v)),(hO,.str (.k n)),(hV,.str (.k f)),(mw,.bool (aD (aE c 0) v)),(lj,dq (.str (.k v)))]),ay⟩ [D,E,T,U]:=fun h hh hj ho=>by
  have hf:∀ ov cv,ja (ab w mg mb (ε.wO ov cv)) 130 (kB (H1 c.wide (aD (aE c 0) v) h)):=fun ov cv=>wy fun q hq=>by
   have hw':(ε.wO ov cv).P=w.params:=hP.trans hw;have hok':(ε.wO ov cv).Ok:=fun i=>hok i;have hbd':aM β6 (ε.wO ov cv):=fun i p h=>hbd i p h;have e0:ε.sv 0++[]=v:=by rw[h0,af]
   rcases bU hq with rfl|hq
   ·have H:=EE (mg:=mg) (mb:=mb) (u:=c.wide) hw' hok' hv.al l400
    refine rQ (Γ:=ab w mg mb (ε.wO ov cv)) hok' hbd' rfl rfl rfl H.1 ?_;show Rz _ 155 [] 810 [.str (.k (ε.sv 0++[])),_] _ [];rw[e0];exact H.2
   ·cases hs:aD (aE c 0) v with
    |false=>rw[hs] at hq;cases hq
    |true=>
     rw[hs] at hq;have hn:v≠[]:=fun e=>by rw[e] at hs;injection hs
     have H:=Iw (mg:=mg) (mb:=mb) hw' hok' hc.b hn hv.al l400;rw[cH hq];refine rQ (Γ:=ab w mg mb (ε.wO ov cv)) hok' hbd' rfl rfl ?_ H.1 ?_
     ·cases h<;>rfl
     ·show Rz _ 155 [] 824 [.str (.k (ε.sv 0++[])),.int (.k ((V 4).val (ε.wO ov cv)))] (.str (.k (SS.val _ (.k h)))) []
      rw[e0,db,bQ,hh hs];rw[show (ε.wO ov cv).iv 4=c.best from h4];exact H.2
  refine((sM (b:=130) (v:=vT c y x (fun k=>tn (.str (.k f)) [.str (.k n)] (k-38))) (z:=gH [D,E,T,U]) hw hP hok (wA c.wide y.narrow (aD (aE c 0) v) h) hbd (fun ov cv O=>hf ov cv) rfl hj).le (by show 10*3+130+30≤190;decide)).cast ?_ rfl rfl ?_ rfl
  ·show (⟨dO (.cell 2) (.cell 0) (I c.asked) (.int (.k ((V 4).val ε))) (.str (.k c.lb)) _ _ _ _ _ _ _ _ _++dF x [(cT,.str (.k (ε.sv 0++[]))),_,_],ay⟩ : ac)=_
   rw[bQ,h4,h0,af];rfl
  ·show (⟨dO (.cell 2) (.cell 0) (I c.asked) (.int (.k ((V 4).val ε))) (.str (.k c.lb)) _ _ _ _ _ _ _ (.bool (y.narrow&&aD (aE c 0) v)) (.bool (aD (aE c 0) v&&nv h))++dF x [(cT,.str (.k (ε.sv 0++[]))),_,_,_,(lj,dq (.str (.k (ε.sv 0++[]))))],ay⟩ : ac)=_
   rw[bQ,h4,h0,af,ho];rfl
 have hj:=aB (aq (aq S7 c.wide (cU _)) y.narrow (cU _));cases hs:aD (aE c 0) v with
 |false=>
  rw[hs] at key;exact key [] (fun h=>by injection h) hj.1 (by unfold cO;rw[hs];rfl)
 |true=>
  rw[hs] at key;exact key (cI c.best v) (fun O=>rfl) (aq hj.2 _ (CG hc.b v)) (by unfold cO;rw[hs];rfl)
end
end
end
section
structure oj where
 t:Expr
 b:List Stmt
 o:List Stmt
 p:Pos
noncomputable def Ab(s:Stmt):oj:=match s with|.If t b o p=>⟨t,b,o,p⟩|_=>⟨.Constant .none 0 default,[],[],default⟩
noncomputable def Aw(l:List Stmt):oj:=match l with|[s]=>Ab s|_=>⟨.Constant .none 0 default,[],[],default⟩
def i1:oj:=Ab (bT 10)
def i2:oj:=Aw i1.o
def i3:oj:=Aw i2.o
def i4:oj:=Aw i3.o
def i5:oj:=Ab ((ak i4.o 2).getD (.Pass default))
theorem Kg:bT 10=.If i1.t i1.b [.If i2.t i2.b [.If i3.t i3.b [.If i4.t i4.b (aP 2 i4.o++[.If i5.t i5.b i5.o i5.p]) i4.p] i3.p] i2.p] i1.p:=by kernel_rfl
noncomputable def β8:Bd:=[(0,0),(0,60000),(0,0),(0,5000),(0,0),(0,5000),(0,0),(0,2),(0,0),(0,8),(2,9),(0,40),(0,0),(0,400)]
def iR(u ap sh ev du pl v:AV)(m:List (Str×AV)):List (Str×AV):=dO (.cell 2) (.cell 0) (.any 20) (.int (V 10)) (.any 22) (.str [.var 3]) u ap sh (.str [.var 4]) ev du (.any 29) (.any 30)++([(iX,.any 31),(iG,.any 32),(tN,.any 33),(ua,.any 34),(s7,.any 35),(tu,pl),(fh,.cell 3),(cT,v),(hO,.str [.var 1]),(hV,.str [.var 2]),(mw,.any 38),(lj,.any 39)]++m)
noncomputable def Bp(n:Nat):St:=[.any 0,.list (cL 60 n),.any 2,.any 3]
noncomputable def vG(n:Nat)(l:List AV):St:=Bp n++[.list l,.list (cL 60 n++l)]
def rH(ap:Bool)(p:AV)(sh:AV)(n:Nat)(d:SS)(ev:AV)(Q:St):bO:=⟨β8,bj,3,[],⟨iR (.any 24) (.bool ap) sh (.cell 1) (.str [.var 0]) p (.any 37) [],ay⟩,Bp n,[bT 10],.next,26,iR (.any 24) (.bool ap) sh ev (.str d) p (.any 37) [],Q⟩
def dA(sh:Bool):SS:=.var 0::.lit [45,45,45,32]::.var 1::Bool.rec [] [.lit [46,46,46],.var 3] sh
noncomputable def d0:SS:=[.var 0,.lit [45,32],.var 1]
noncomputable def d1:SS:=[.var 0,.lit [45],.var 4,.lit [107,58,32],.var 2]
noncomputable def d2:SS:=[.var 0,.lit [45],.var 4,.lit [45,32],.var 2]
def d3(b:Bool):SS:=[.var 0,.lit [45],.var 4]++Bool.rec [.lit [63,32],.var 2,.rep 32 (V 10),.lit [58,32],.var 2] [.var 6,.lit [58,32],.var 2] b
def e3:List AV:=[uU,.any 39,dq (.any 37),dG 265]
theorem O8:(tf.all fun sh=>[1,4,7].all fun n=>(rH true (.any 36) (.bool sh) n (dA sh) (.cell 5) (vG n [eH,.any 39,gW sh])).chk)=true:=by kernel_rfl
theorem PS:((List.range 12).all fun n=>(rH false (I 0) (.any 26) n d0 (.cell 1) [.any 0,.list (cL 60 n++[.any 39]),.any 2,.any 3]).chk&&((rH false (I 1) (.any 26) n d1 (.cell 5) (vG n [uU,xT,.any 39,dG 265])).chk&&(rH false (I 2) (.any 26) n d2 (.cell 5) (vG n [dE,.any 39,dG 241])).chk))=true:=by kernel_rfl
def Hz(n:Nat):bO:=⟨β8,bj,3,[],⟨iR (.any 24) (.any 25) (.any 26) (.cell 1) (.str [.var 0]) (.any 36) (.any 37) [],ay⟩,Bp n,aP 2 i4.o,.next,27,iR (.any 24) (.any 25) (.any 26) (.cell 5) (.str [.var 0]) (.any 36) (.any 37) [(jQ,dq (.any 37))],vG n e3⟩
def Ii(u b:Bool):bO:=⟨β8,kB [⟨none,817,[.str [.var 5],.bool u],.str [.var 6]⟩],3,[],⟨iR (.bool u) (.any 25) (.any 26) (.cell 5) (.str [.var 0]) (.any 36) (.str [.var 5]) [(jQ,.any 40)],ay⟩,ik 0 6,Bool.rec i5.b i5.o b,.next,27,iR (.bool u) (.any 25) (.any 26) (.cell 5) (.str (d3 b)) (.any 36) (.str [.var 5]) [(jQ,.any 40)],ik 0 6⟩
theorem T7:((List.range 12).all fun n=>(Hz n).chk)=true:=by kernel_rfl
theorem OR:(tf.all fun u=>tf.all fun b=>(Ii u b).chk)=true:=by kernel_rfl
end
section
section
def d7(c:Lk)(p:Nat)(ps:bN):List Nat:=Bool.rec
 (match p with
  |0=>[45,32]++bH (aE c 0) c.best ps
  |1=>45::(cY c++([107,58,32]++bH (aE c 0) (2*c.best:Nat) ps))
  |2=>45::(cY c++([45,32]++bH (aE c 0) (2*c.best:Nat) ps))
  |_=>45::(cY c++Bool.rec ([63,32]++(bH (aE c 0) (2*c.best:Nat) ps++(dL c.best++([58,32]++bH (aE c 0) (2*c.best:Nat) ps)))) (gj c.wide (au ps)++([58,32]++bH (aE c 0) (2*c.best:Nat) ps)) (dW (au ps))))
 ([45,45,45,32]++(bH (aE c 0) c.best ps++Bool.rec [] ([46,46,46]++c.nl) c.shut)) c.apart
def gv(c:Lk)(p:Nat)(v:List Nat):List AV:=Bool.rec (dU p v) [eH,dq (.str (.k v)),gW c.shut] c.apart
def jC(k:Nat)(c:Lk)(y:Lm)(m:List (Str×AV)):List (Str×AV):=dO (.cell 2) (.cell 0) (I c.asked) (I c.best) (.str (.k c.lb)) (.str (.k c.nl)) (.bool c.wide) (.bool c.apart) (.bool c.shut) (.str (.k (cY c))) (.cell k) (.str (.k y.due)) (.bool y.narrow) (.bool y.oe)++m
def mT(c:Lk)(ps:bN):List (Str×AV):=[(cT,.str (.k (au ps))),(hO,.str (.k (bH (aE c 0) c.best ps))),(hV,.str (.k (bH (aE c 0) (2*c.best:Nat) ps))),(mw,.bool (aD (aE c 0) (au ps))),(lj,dq (.str (.k (au ps))))]
def v8(c:Lk)(y:Lm)(x:Tn)(ps:bN)(ev:List AV):Nat→AV:=vT c y x (tO (fun k=>(ak ev (k-60)).getD .none) 37 [some (.str (.k (au ps))),some (.bool (aD (aE c 0) (au ps))),some (dq (.str (.k (au ps)))),some (dq (.str (.k (au ps))))])
def ε8(P:Params)(c:Lk)(y:Lm)(ps:bN):Ev:=dz P (tn 0 [0,0,0,0,0,c.best]) (tn [] [y.due,bH (aE c 0) c.best ps,bH (aE c 0) (2*c.best:Nat) ps,c.nl,cY c,au ps,gj c.wide (au ps)])
section
variable {P:Params}{c:Lk}{y:Lm}{x:Tn}{ps:bN}{ev:List AV}{z:Nat→aw}
theorem yg(hc:gK c)(h:d4 ps)(hd:y.due.length≤60000):aM β8 (ε8 P c y ps):=gx (by
 have e0:(0:Int)≤0∧(0:Int)≤0:=⟨bz _,bz _⟩;have l:∀ {x:List Nat} {k:Nat},x.length≤k→(0:Int)≤(x.length:Int)∧(x.length:Int)≤(k:Int):=fun h=>⟨bK _,eP h⟩;have hb:2≤(c.best:Int)∧(c.best:Int)≤9:=je (oG hc);have t:=(jW h).t.len;have lp:(cY c).length≤8:=by unfold cY;rw[List.length_replicate];lia
 exact⟨e0,l hd,e0,l (pk hc h ⟨hb.1,by lia⟩),e0,l (pk hc h ⟨by lia,by lia⟩),e0,l hc.n.2,e0,l lp,hb,l t,e0,l (Ag _ t),trivial⟩)
theorem EX:∀ (L:List AV) (i:Nat),(∀ j a,ak L j=some a→v (i+j)=a)→aO (ai ε v z) (cL i L.length)=L:=by
 intro L0;induction L0 with
 |nil=>
  intro _ _;exact rfl
 |cons a r ih=>
  intro i h;show v i::aO (ai ε v z) (cL (i+1) r.length)=a::r;rw[ih (i+1) fun j n hj=>by rw[show i+1+j=i+(j+1) by lia];exact h (j+1) n hj,show v i=a from h 0 a rfl]
theorem nP:aO (ai ε (v8 c y x ps ev) z) (cL 60 ev.length)=ev:=EX ev 60 fun j a h=>by
 have:v8 c y x ps ev (60+j)=(ak ev (60+j-60)).getD .none:=by
  unfold v8 vT ke;rw[pT (show 20+11≤60+j from Nat.le_add_right_of_le (by decide)),pT (show 31+6≤60+j from Nat.le_add_right_of_le (by decide)),pT (show 37+4≤60+j from Nat.le_add_right_of_le (by decide))]
 rw[this,Nat.add_sub_cancel_left,h];rfl
theorem q9(u ap sh ev' du pl v:AV)(m:List (Str×AV)):cC (ai (ε8 P c y ps) (v8 c y x ps ev) z) ⟨iR u ap sh ev' du pl v m,ay⟩ =
  ⟨dO (.cell 2) (.cell 0) (I c.asked) (I c.best) (.str (.k c.lb)) (.str (.k c.nl)) (flA (ai (ε8 P c y ps) (v8 c y x ps ev) z) u) (flA (ai (ε8 P c y ps) (v8 c y x ps ev) z) ap) (flA (ai (ε8 P c y ps) (v8 c y x ps ev) z) sh) (.str (.k (cY c))) (flA (ai (ε8 P c y ps) (v8 c y x ps ev) z) ev') (flA (ai (ε8 P c y ps) (v8 c y x ps ev) z) du) (.bool y.narrow) (.bool y.oe) ++
   ([(iX,I x.t),(iG,I x.f),(tN,I x.a),(ua,I x.b),(s7,I x.d),(tu,flA (ai (ε8 P c y ps) (v8 c y x ps ev) z) pl),(fh,.cell 3),(cT,flA (ai (ε8 P c y ps) (v8 c y x ps ev) z) v),(hO,.str (.k (bH (aE c 0) c.best ps))),(hV,.str (.k (bH (aE c 0) (2*c.best:Nat) ps))),(mw,.bool (aD (aE c 0) (au ps))),(lj,dq (.str (.k (au ps))))]++fQ (ai (ε8 P c y ps) (v8 c y x ps ev) z) m),ay⟩:=by
 show (⟨dO (.cell 2) (.cell 0) (I c.asked) (.int (.k ((V 10).val (ε8 P c y ps)))) (.str (.k c.lb)) (.str (.k (c.nl++[]))) _ _ _ (.str (.k (cY c++[]))) _ _ _ _++([_,_,_,_,_,_,_,_,(hO,.str (.k (bH (aE c 0) c.best ps++[]))),(hV,.str (.k (bH (aE c 0) (2*c.best:Nat) ps++[]))),_,_]++_),ay⟩ : ac)=_;rw[bQ,af,af,af,af];rfl
end
end
end
section
section
noncomputable def tj(c:Lk)(ev:List AV):Prop:=Bool.rec (ev.length<12) (ev.length∈[1,4,7]) c.apart
theorem Ps(h:∀ d∈v,d∈aZ):(aK 10 v ||aK 8232 v)=v.any aC:=by
 induction v with
 |nil=>rfl
 |cons a r ih=>
  have ha:=aq (show (aZ.all fun a=>Bool.rec (!(aC a)) (aC a) (Nat.beq 10 a ||Nat.beq 8232 a))=true by decide +kernel) a (h a (.head _));show (aK 10 (a::r) ||aK 8232 (a::r))=(aC a ||r.any aC);rw[uA,uA,←ih fun d hd=>h d (.tail _ hd)];generalize Nat.beq 10 a=p at *
  generalize Nat.beq 8232 a=q at *
  generalize aC a=s at *
  generalize aK 10 r=m at *
  generalize aK 8232 r=n at *
  revert ha;cases p<;>cases q<;>cases s<;>cases m<;>cases n<;>intro ha<;>first|rfl|injection ha
section
variable {w:World}{mg mb:Str→Option Value}{ε0:Ev}(hw:ε0.P=w.params)(he:ε0.Ok)
variable {c:Lk}(hc:gK c){y:Lm}{x:Tn}{ps:bN}(h:d4 ps){ev tp dl:List AV}(hd:y.due.length≤60000)
include hw
include hc h hd in
theorem vO(e:c.apart=ap)(e2:sh=.any 26∨sh=.bool c.shut)(e3:p=.any 36∨p=I x.p)(hk:∃ i,k=.cell i)(hj:(rH ap p sh ev.length d k Q).chk=true) :
  aQ (ab w mg mb ε0) 150 [bT 10] ⟨bG c y (dF x (mT c ps)),ay⟩ [.list dl,.list ev,.list tp,U] .next
   ⟨dO (.cell 2) (.cell 0) (I c.asked) (I c.best) (.str (.k c.lb)) (.str (.k c.nl)) (.bool c.wide) (.bool c.apart) (.bool c.shut) (.str (.k (cY c))) k (.str (.k (d.val (ε8 ε0.P c y ps)))) (.bool y.narrow) (.bool y.oe)++dF x (mT c ps),ay⟩ (bC (ai (ε8 ε0.P c y ps) (v8 c y x ps ev) (gH [.list dl,.list ev,.list tp,U])) Q):=by
 have es:flA (ai (ε8 ε0.P c y ps) (v8 c y x ps ev) (gH [.list dl,.list ev,.list tp,U])) sh=.bool c.shut:=by rcases e2 with rfl|rfl<;>rfl
 have ep:flA (ai (ε8 ε0.P c y ps) (v8 c y x ps ev) (gH [.list dl,.list ev,.list tp,U])) p=I x.p:=by
  rcases e3 with rfl|rfl
  ·rfl
  ·show AV.int (.k ((am.k x.p).val _))=_;rw[bV];rfl
 obtain⟨i,rfl⟩:=hk;refine(ck (v:=v8 c y x ps ev) (z:=gH [.list dl,.list ev,.list tp,U]) hw (ε:=ε8 ε0.P c y ps) rfl (bM _ _ _) (rH ap p sh ev.length d (.cell i) Q) (yg hc h hd) ⟨rfl,(by decide:3≤12),rfl⟩ hj).cast ?_ ?_ rfl ?_ rfl
 ·show cC _ ⟨iR (.any 24) (.bool ap) sh (.cell 1) (.str [.var 0]) p (.any 37) [],ay⟩=_
  rw[q9,es,ep];show (⟨dO (.cell 2) (.cell 0) _ _ _ _ (.bool c.wide) (.bool ap) _ _ _ (.str (.k (y.due++[]))) _ _++_,ay⟩ : ac)=_;rw[af,←e];rfl
 ·show [aw.list dl,.list (aO _ (cL 60 ev.length)),.list tp,U]=_
  rw[nP]
 ·show cC _ ⟨iR (.any 24) (.bool ap) sh (.cell i) (.str d) p (.any 37) [],ay⟩=_
  rw[q9,es,ep,←e];rfl
include he in
theorem sf(hk:k=1∨k=5){ls:ac}(hs:ay=ls.sc)(f0:ak σ' 0=some (.list dl)∧dB dl)(f1:ak σ' k=some (.list ev')∧dB ev')(f2:ak σ' 2=some (.list tp)∧dB tp)(H:Gz (ab w mg mb ε0) 300 ss ls σ .next ⟨jC k c y m,ay⟩ σ') :
  Gz (ab w mg mb ε0) 300 ss ls σ .next ⟨bG c y [],ay⟩ [.list dl,.list ev',.list tp]:=by
 rcases hk with rfl|rfl
 ·exact H.pick he [0,1,2] [dl,ev',tp] (l1:=jC 1 c y []) hs rfl ⟨f0,f1,f2,trivial⟩ rfl fun x v hx=>rD hx
 ·exact H.pick he [0,5,2] [dl,ev',tp] (l1:=jC 5 c y []) hs rfl ⟨f0,f1,f2,trivial⟩ rfl fun x v hx=>rD hx
end
end
end
section
section
theorem dB.app(h:dB a)(g:dB b):dB (a++b):=by
 unfold dB hH at *
 rw[List.flatMap_append,List.all_append,h,g];rfl
theorem Hd(c:Lk)(p:Nat)(v:List Nat):dB (gv c p v):=by
 unfold gv;cases c.apart with
 |true=>rfl
 |false=>match p with
  |0=>rfl
  |1=>rfl
  |2=>rfl
  |_+3=>rfl
section
variable {w:World}{mg mb:Str→Option Value}{ε0:Ev}(hw:ε0.P=w.params)(he:ε0.Ok)
variable {c:Lk}(hc:gK c){y:Lm}{x:Tn}{ps:bN}(h:d4 ps){ev tp dl:List AV}(hd:y.due.length≤60000)
include hw hc h hd
theorem MO(hn:ev.length<12) :
  aQ (ab w mg mb ε0) 150 (aP 2 i4.o) ⟨bG c y (dF x (mT c ps)),ay⟩ [.list dl,.list ev,.list tp,U] .next ⟨jC 5 c y (dF x (mT c ps++[(jQ,dq (.str (.k (au ps))))])),ay⟩ [.list dl,.list ev,.list tp,U,.list (dU 3 (au ps)),.list (ev++dU 3 (au ps))]:=by
 have hj:=aq T7 ev.length (eU hn);refine(ck (v:=v8 c y x ps ev) (z:=gH [.list dl,.list ev,.list tp,U]) hw (ε:=ε8 ε0.P c y ps) rfl (bM _ _ _) (Hz ev.length) (yg hc h hd) ⟨rfl,(by decide:3≤12),rfl⟩ hj).cast ?_ ?_ rfl ?_ ?_
 ·show cC _ ⟨iR (.any 24) (.any 25) (.any 26) (.cell 1) (.str [.var 0]) (.any 36) (.any 37) [],ay⟩=_
  rw[q9];show (⟨dO (.cell 2) (.cell 0) _ _ _ _ _ _ _ _ _ (.str (.k (y.due++[]))) _ _++_,ay⟩ : ac)=_;rw[af];rfl
 ·show [aw.list dl,.list (aO _ (cL 60 ev.length)),.list tp,U]=_
  rw[nP]
 ·show cC _ ⟨iR (.any 24) (.any 25) (.any 26) (.cell 5) (.str [.var 0]) (.any 36) (.any 37) [(jQ,dq (.any 37))],ay⟩=_
  rw[q9];show (⟨dO (.cell 2) (.cell 0) _ _ _ _ _ _ _ _ _ (.str (.k (y.due++[]))) _ _++_,ay⟩ : ac)=_;rw[af];rfl
 ·show [aw.list dl,.list (aO _ (cL 60 ev.length)),.list tp,U,.list (aO _ e3),.list (aO _ (cL 60 ev.length++e3))]=_
  rw[ot,nP];rfl
include he
theorem RD :
  aQ (ab w mg mb ε0) 190 (Bool.rec i5.b i5.o (dW (au ps))) ⟨jC 5 c y (dF x (mT c ps++[(jQ,dq (.str (.k (au ps))))])),ay⟩ [A,B,C,D,E,F] .next ⟨jC 5 c ⟨y.due++(45::(cY c++Bool.rec ([63,32]++(bH (aE c 0) (2*c.best:Nat) ps++(dL c.best++([58,32]++bH (aE c 0) (2*c.best:Nat) ps)))) (gj c.wide (au ps)++([58,32]++bH (aE c 0) (2*c.best:Nat) ps)) (dW (au ps)))),y.narrow,y.oe⟩ (dF x (mT c ps++[(jQ,dq (.str (.k (au ps))))])),ay⟩ [A,B,C,D,E,F]:=by
 have hj:=aq (aq OR c.wide (cU _)) (dW (au ps)) (cU _);have hbd:=yg (P:=ε0.P) hc h hd;have hok0:(ε8 ε0.P c y ps).Ok:=bM _ _ _;have hf:∀ ov cv,ja (ab w mg mb ((ε8 ε0.P c y ps).wO ov cv)) 130 (kB [⟨none,817,[.str [.var 5],.bool c.wide],.str [.var 6]⟩]):=fun ov cv=>wy fun q hq=>by
  have hok':((ε8 ε0.P c y ps).wO ov cv).Ok:=fun i=>hok0 i;have hbd':aM β8 ((ε8 ε0.P c y ps).wO ov cv):=fun i p h=>hbd i p h;have H:=Ez (mg:=mg) (mb:=mb) (ε0:=(ε8 ε0.P c y ps).wO ov cv) (u:=c.wide) hw hok' (jW h).t.al (Nat.le_trans (jW h).t.len (by decide));rw[cH hq];refine rQ (Γ:=ab w mg mb ((ε8 ε0.P c y ps).wO ov cv)) hok' hbd' rfl rfl rfl H.1 ?_;show Rz _ 155 [] 817 [.str (.k (au ps++[])),_] (.str (.k (gj c.wide (au ps)++[]))) [];rw[af,af];exact H.2
 refine((sM (mg:=mg) (mb:=mb) (b:=130) (v:=v8 c y x ps []) (z:=gH [A,B,C,D,E,F]) hw (ε:=ε8 ε0.P c y ps) rfl (bM _ _ _) (Ii c.wide (dW (au ps))) hbd (fun ov cv U=>hf ov cv) rfl hj).le (by show 10*3+130+30≤190;decide)).cast ?_ rfl rfl ?_ rfl
 ·show cC _ ⟨iR (.bool c.wide) (.any 25) (.any 26) (.cell 5) (.str [.var 0]) (.any 36) (.str [.var 5]) [(jQ,.any 40)],ay⟩=_
  rw[q9];show (⟨dO (.cell 2) (.cell 0) _ _ _ _ _ _ _ _ _ (.str (.k (y.due++[]))) _ _++([_,_,_,_,_,_,_,(cT,.str (.k (au ps++[]))),_,_,_,_]++_),ay⟩ : ac)=_;rw[af,af];rfl
 ·show cC _ ⟨iR (.bool c.wide) (.any 25) (.any 26) (.cell 5) (.str (d3 (dW (au ps)))) (.any 36) (.str [.var 5]) [(jQ,.any 40)],ay⟩=_
  rw[q9];have ed:(d3 (dW (au ps))).val (ε8 ε0.P c y ps)=y.due++(45::(cY c++Bool.rec ([63,32]++(bH (aE c 0) (2*c.best:Nat) ps++(dL c.best++([58,32]++bH (aE c 0) (2*c.best:Nat) ps)))) (gj c.wide (au ps)++([58,32]++bH (aE c 0) (2*c.best:Nat) ps)) (dW (au ps)))):=by
   cases dW (au ps) with
   |false=>
    show y.due++([45]++(cY c++([63,32]++(bH (aE c 0) (2*c.best:Nat) ps++(List.replicate ((V 10).val (ε8 ε0.P c y ps)).toNat 32++([58,32]++(bH (aE c 0) (2*c.best:Nat) ps++[])))))))=_;rw[bQ,af];rfl
   |true=>
    show y.due++([45]++(cY c++(gj c.wide (au ps)++([58,32]++(bH (aE c 0) (2*c.best:Nat) ps++[])))))=_;rw[af];rfl
  show (⟨dO (.cell 2) (.cell 0) _ _ _ _ _ _ _ _ _ (.str (.k ((d3 (dW (au ps))).val (ε8 ε0.P c y ps)))) _ _++([_,_,_,_,_,_,_,(cT,.str (.k (au ps++[]))),_,_,_,_]++_),ay⟩ : ac)=_;rw[ed,af];rfl
end
end
end
section
section
theorem Ml(c:Lk)(y:Lm)(x:Tn)(v:List Nat)(n f s nd ag:AV)(σ:St):(cX [] bj 3).tst ⟨jC 5 c y (dF x ([(cT,.str (.k v)),(hO,n),(hV,f),(mw,s),(lj,nd)]++[(jQ,ag)])),ay⟩ σ i5.t=some (aF v ||(aK 10 v ||aK 8232 v),σ):=by
 cases v with
 |nil=>kernel_rfl
 |cons a r=>
  have e:(cX [] bj 3).tst ⟨jC 5 c y (dF x ([(cT,.str (.k (a::r))),(hO,n),(hV,f),(mw,s),(lj,nd)]++[(jQ,ag)])),ay⟩ σ i5.t=Bool.rec (some (aK 8232 (a::r),σ)) (some (aK 10 (a::r),σ)) (aK 10 (a::r)):=by kernel_rfl
  rw[e];show _=some (aK 10 (a::r) ||aK 8232 (a::r),σ);cases aK 10 (a::r)<;>rfl
theorem OX(c:Lk)(y:Lm)(t f a b d:Nat)(m:List (Str×AV))(σ:St)(ha:c.apart=false):(cX [] bj 3).tst ⟨bG c y (dF ⟨t,f,a,b,d,3⟩ m),ay⟩ σ i1.t=some (false,σ)∧(cX [] bj 3).tst ⟨bG c y (dF ⟨t,f,a,b,d,3⟩ m),ay⟩ σ i2.t=some (false,σ)∧(cX [] bj 3).tst ⟨bG c y (dF ⟨t,f,a,b,d,3⟩ m),ay⟩ σ i3.t=some (false,σ)∧(cX [] bj 3).tst ⟨bG c y (dF ⟨t,f,a,b,d,3⟩ m),ay⟩ σ i4.t=some (false,σ):=by
 obtain⟨c1,c2,c3,c4,c5,c6,c7⟩:=c;obtain rfl:c6=false:=ha;exact⟨by kernel_rfl,by kernel_rfl,by kernel_rfl,by kernel_rfl⟩
section
variable {w:World}{mg mb:Str→Option Value}{ε0:Ev}(hw:ε0.P=w.params)(he:ε0.Ok)
variable {c:Lk}(hc:gK c){y:Lm}{x:Tn}{ps:bN}(h:d4 ps){ev tp dl:List AV}(hd:y.due.length≤60000)
include hw he hc h hd
theorem UK(hp:x.p<4)(hev:tj c ev)(f0:dB dl)(f1:dB ev)(f2:dB tp) :
  Gz (ab w mg mb ε0) 300 [bT 10] ⟨bG c y (dF x (mT c ps)),ay⟩ [.list dl,.list ev,.list tp,U] .next ⟨bG c ⟨y.due++d7 c x.p ps,y.narrow,y.oe⟩ [],ay⟩ [.list dl,.list (ev++gv c x.p (au ps)),.list tp]:=by
 have ff:=f1.app (Hd c x.p (au ps));unfold tj at hev;cases ha:c.apart with
 |true=>
  rw[ha] at hev;have hj:=aq (aq O8 c.shut (cU _)) ev.length hev;have D:=vO (mg:=mg) (mb:=mb) (x:=x) (dl:=dl) (tp:=tp) (U:=U) hw hc h hd ha (.inr rfl) (.inl rfl) ⟨_,rfl⟩ hj;have e:(dA c.shut).val (ε8 ε0.P c y ps)=y.due++d7 c x.p ps:=by
   unfold d7;rw[ha];cases c.shut with
   |false=>show y.due++([45,45,45,32]++(bH (aE c 0) c.best ps++[]))=_;rfl
   |true=>show y.due++([45,45,45,32]++(bH (aE c 0) c.best ps++([46,46,46]++(c.nl++[]))))=_;rw[af]
  rw[e] at D;refine sf hw he (k:=5) (.inr rfl) rfl ⟨rfl,f0⟩ ⟨?_,ff⟩ ⟨rfl,f2⟩ (D.gz (n':=300) (by decide));show some (aw.list (aO _ (cL 60 ev.length++[eH,.any 39,gW c.shut])))=_;rw[ot,nP];unfold gv;rw[ha];rfl
 |false=>
  rw[ha] at hev;have hj:=aB (aq PS ev.length (eU hev));have hj2:=aB hj.2;obtain⟨t,f,a,b,d,p⟩:=x;replace hp:p<4:=hp;have:p=0∨p=1∨p=2∨p=3:=by lia
  have ea:∀ p,gv c p (au ps)=dU p (au ps):=fun p=>by unfold gv;rw[ha]
  rcases this with rfl|rfl|rfl|rfl
  ·have D:=vO (mg:=mg) (mb:=mb) (x:=⟨t,f,a,b,d,0⟩) (dl:=dl) (tp:=tp) (U:=U) hw hc h hd ha (.inl rfl) (.inr rfl) ⟨_,rfl⟩ hj.1
   have e:d0.val (ε8 ε0.P c y ps)=y.due++d7 c 0 ps:=by
    unfold d7;rw[ha];show y.due++([45,32]++(bH (aE c 0) c.best ps++[]))=_;rw[af];rfl
   rw[e] at D;refine sf hw he (k:=1) (.inl rfl) rfl ⟨rfl,f0⟩ ⟨?_,ff⟩ ⟨rfl,f2⟩ (D.gz (n':=300) (by decide));show some (aw.list (aO _ (cL 60 ev.length++[.any 39])))=_;rw[ot,nP,ea];rfl
  ·have D:=vO (mg:=mg) (mb:=mb) (x:=⟨t,f,a,b,d,1⟩) (dl:=dl) (tp:=tp) (U:=U) hw hc h hd ha (.inl rfl) (.inr rfl) ⟨_,rfl⟩ hj2.1
   have e:d1.val (ε8 ε0.P c y ps)=y.due++d7 c 1 ps:=by
    unfold d7;rw[ha];show y.due++([45]++(cY c++([107,58,32]++(bH (aE c 0) (2*c.best:Nat) ps++[]))))=_;rw[af];rfl
   rw[e] at D;refine sf hw he (k:=5) (.inr rfl) rfl ⟨rfl,f0⟩ ⟨?_,ff⟩ ⟨rfl,f2⟩ (D.gz (n':=300) (by decide));show some (aw.list (aO _ (cL 60 ev.length++[uU,xT,.any 39,dG 265])))=_;rw[ot,nP,ea];rfl
  ·have D:=vO (mg:=mg) (mb:=mb) (x:=⟨t,f,a,b,d,2⟩) (dl:=dl) (tp:=tp) (U:=U) hw hc h hd ha (.inl rfl) (.inr rfl) ⟨_,rfl⟩ hj2.2
   have e:d2.val (ε8 ε0.P c y ps)=y.due++d7 c 2 ps:=by
    unfold d7;rw[ha];show y.due++([45]++(cY c++([45,32]++(bH (aE c 0) (2*c.best:Nat) ps++[]))))=_;rw[af];rfl
   rw[e] at D;refine sf hw he (k:=5) (.inr rfl) rfl ⟨rfl,f0⟩ ⟨?_,ff⟩ ⟨rfl,f2⟩ (D.gz (n':=300) (by decide));show some (aw.list (aO _ (cL 60 ev.length++[dE,.any 39,dG 241])))=_;rw[ot,nP,ea];rfl
  ·apply nq (OX c y t f a b d (mT c ps) [.list dl,.list ev,.list tp,U] ha);intro q1 q2 q3 q4
   have A:=(MO (mg:=mg) (mb:=mb) (x:=⟨t,f,a,b,d,3⟩) (dl:=dl) (tp:=tp) (U:=U) hw hc h hd hev).le (n:=190) (by decide);replace B:=RD (mg:=mg) (mb:=mb) (x:=⟨t,f,a,b,d,3⟩) (A:=.list dl) (B:=.list ev) (C:=.list tp) (D:=U) (E:=.list (dU 3 (au ps))) (F:=.list (ev++dU 3 (au ps))) hw he hc h hd;have T:=(ub (mg:=mg) (mb:=mb) hw he (by decide) (Ml c y ⟨t,f,a,b,d,3⟩ (au ps) (.str (.k (bH (aE c 0) c.best ps))) (.str (.k (bH (aE c 0) (2*c.best:Nat) ps))) (.bool (aD (aE c 0) (au ps))) (dq (.str (.k (au ps)))) (dq (.str (.k (au ps)))) [.list dl,.list ev,.list tp,U,.list (dU 3 (au ps)),.list (ev++dU 3 (au ps))])).le (n:=190) (by decide);have es:(aF (au ps) ||(aK 10 (au ps) ||aK 8232 (au ps)))=!(dW (au ps)):=by
    rw[Ps (jW h).t.al];unfold dW;cases aF (au ps)<;>cases (au ps).any aC<;>rfl
   rw[es] at T;have I5:=Dz.if_ (pos:=i5.p) (b:=i5.b) (o:=i5.o) T (by
    rw[show (Bool.rec i5.o i5.b (!(dW (au ps))):List Stmt)=Bool.rec i5.b i5.o (dW (au ps)) by cases dW (au ps)<;>rfl];exact B)
   have t1:=(ub (mg:=mg) (mb:=mb) hw he (by decide) q1).le (n:=190) (by decide);have t2:=(ub (mg:=mg) (mb:=mb) hw he (by decide) q2).le (n:=190) (by decide);have t3:=(ub (mg:=mg) (mb:=mb) hw he (by decide) q3).le (n:=190) (by decide);have t4:=(ub (mg:=mg) (mb:=mb) hw he (by decide) q4).le (n:=190) (by decide);have D:=(Dz.if_ (pos:=i1.p) (b:=i1.b) t1 (Dz.if_ (pos:=i2.p) (b:=i2.b) t2 (Dz.if_ (pos:=i3.p) (b:=i3.b) t3 (Dz.if_ (pos:=i4.p) (b:=i4.b) t4 (A.append I5.one)).one).one).one).one;rw[←Kg] at D;have e:∀ X,y.due++(45::(cY c++X))=y.due++(45::(cY c++X)):=fun O=>rfl;have ead:d7 c 3 ps=45::(cY c++Bool.rec ([63,32]++(bH (aE c 0) (2*c.best:Nat) ps++(dL c.best++([58,32]++bH (aE c 0) (2*c.best:Nat) ps)))) (gj c.wide (au ps)++([58,32]++bH (aE c 0) (2*c.best:Nat) ps)) (dW (au ps))):=by
    unfold d7;rw[ha];rfl
   rw[←ead] at D;refine sf hw he (k:=5) (.inr rfl) rfl ⟨rfl,f0⟩ ⟨?_,ff⟩ ⟨rfl,f2⟩ (D.gz (n':=300) (by decide));rw[ea];rfl
end
end
end
section
section
def jZ(N:List Nat)(t:Nat):bN:=mW (bP N (4*t)*1733 % 5040 / 4 % 4) (iI (3-bP N (4*t)*1733 % 5040 / 16 % 4) (bP N (4*t+1)) (bP N (4*t+2)) (bP N (4*t+3)))
theorem yt(N:List Nat)(t:Nat):d4 (jZ N t):=SA _ _ _ (Nat.le_of_lt_succ (Nat.mod_lt _ (by decide))) (Nat.sub_le _ _)
noncomputable def ip(N:List Nat):Nat→Nat→List (Nat×bN)
 |_,0=>[]
 |k,m+1=>(bP N (4*k) % 4,jZ N k)::ip N (k+1) m
def qY(c:Lk)(y:Lm)(t:Nat×bN):Lm:=⟨y.due++d7 c t.1 t.2,y.narrow&&aD (aE c 0) (au t.2),cO (aE c 0) (au t.2)⟩
noncomputable def dy(c:Lk)(y:Lm):List (Nat×bN)→Lm
 |[]=>y
 |t::r=>dy c (qY c y t) r
def et(c:Lk)(l:List (Nat×bN)):List AV:=l.flatMap fun t=>gv c t.1 (au t.2)
theorem SX:fK.b=([bT 0]++([bT 1]++[bT 2]))++([bT 3]++([bT 4,bT 5]++([bT 6,bT 7,bT 8,bT 9]++[bT 10]))):=by kernel_rfl
theorem HH{c:Lk}(hc:gK c){ps:bN}(h:d4 ps)(p:Nat):(d7 c p ps).length≤10200:=by
 have hb:2≤(c.best:Int)∧(c.best:Int)≤9:=je (oG hc);have l1:=pk hc h (ind:=c.best) ⟨hb.1,by lia⟩;have l2:=pk hc h (ind:=(2*c.best:Nat)) ⟨by lia,by lia⟩;have l3:(cY c).length≤8:=by unfold cY;rw[List.length_replicate];lia
 have l4:(dL c.best).length≤9:=by unfold dL;rw[List.length_replicate];lia
 have l5:=Ag c.wide (jW h).t.len;have l6:=hc.n.2;unfold d7;generalize bH (aE c 0) c.best ps=n at *
 generalize bH (aE c 0) (2*c.best:Nat) ps=f at *
 generalize gj c.wide (au ps)=q at *
 generalize cY c=pd at *
 generalize dL c.best=bl at *
 cases c.apart with
 |true=>
  cases c.shut<;>simp only [ax,bb,List.length_nil]<;>lia
 |false=>
  match p with
  |0=>simp only [ax,bb,List.length_nil];lia
  |1=>simp only [ax,bb,List.length_nil];lia
  |2=>simp only [ax,bb,List.length_nil];lia
  |_+3=>cases dW (au ps)<;>simp only [ax,bb,List.length_nil]<;>lia
noncomputable def nO(c:Lk)(k m:Nat)(ev:List AV):Prop:=Bool.rec (ev.length+4*m≤15) (ev.length=1+3*k) c.apart
theorem Tj{c:Lk}{k m p:Nat}{v:List Nat}{ev:List AV}(h:nO c k (m+1) ev)(hk:k+(m+1)≤3):tj c ev∧nO c (k+1) m (ev++gv c p v):=by
 unfold nO tj gv at *
 revert h;cases c.apart with
 |true=>
  intro h;replace h:ev.length=1+3*k:=h;have:k=0∨k=1∨k=2:=by lia
  refine⟨by rcases this with rfl|rfl|rfl<;>rw[h]<;>simp,?_⟩;show (ev++[_,_,_]).length=_;rw[ax,h];show 1+3*k+3=_;lia
 |false=>
  intro h;replace h:ev.length+4*(m+1)≤15:=h;have l:(dU p v).length≤4:=by
   match p with
   |0=>show 1≤4;decide
   |1=>exact Nat.le_refl 4
   |2=>show 3≤4;decide
   |_+3=>exact Nat.le_refl 4
  refine⟨by show ev.length<12;lia,?_⟩;show (ev++dU p v).length+4*m≤15;rw[ax];lia
section
variable {w:World}{mg mb:Str→Option Value}{ε0:Ev}(hw:ε0.P=w.params)(he:ε0.Ok)
variable {c:Lk}(hc:gK c){N:List Nat}(hN:N.length≤12)(h5:∀ n∈N,n<5040){tp:List AV}(f2:dB tp)
include hw he hc hN h5 f2
theorem Op{y:Lm}{t:Nat}{ev:List AV}(ht:t<3)(hd:y.due.length≤60000)(hev:tj c ev)(f1:dB ev) :
  Gz (ab w mg mb ε0) 300 fK.b ⟨bG c y [(iX,I t)],ay⟩ [.list (tI N),.list ev,.list tp] .next ⟨bG c (qY c y (bP N (4*t) % 4,jZ N t)) [],ay⟩ [.list (tI N),.list (ev++gv c (bP N (4*t) % 4) (au (jZ N t))),.list tp]:=by
 have A:=Ol (mg:=mg) (mb:=mb) (c:=c) (y:=y) hw he hN ht h5 f1 f2;have hr:d4 (jZ N t):=yt N t;have hp:bP N (4*t) % 4<4:=Nat.mod_lt _ (by decide);replace A:Gz (ab w mg mb ε0) 300 ([bT 0]++([bT 1]++[bT 2])) ⟨bG c y [(iX,I t)],ay⟩ [.list (tI N),.list ev,.list tp] .next ⟨bG c y (dF ⟨t,bP N (4*t),bP N (4*t+1),bP N (4*t+2),bP N (4*t+3),bP N (4*t) % 4⟩ []),ay⟩ [.list (tI N),.list ev,.list tp,.list (dk (jZ N t))]:=A;generalize jZ N t=ps at *
 generalize hx:(⟨t,bP N (4*t),bP N (4*t+1),bP N (4*t+2),bP N (4*t+3),bP N (4*t) % 4⟩ : Tn)=x at *
 have hxp:bP N (4*t) % 4=x.p:=by rw[←hx]
 rw[hxp] at hp ⊢;apply bx (RL (mg:=mg) (mb:=mb) (c:=c) (y:=y) (x:=x) (D:=.list (tI N)) (E:=.list ev) (T:=.list tp) hw hr);intro more D4;have G4:=(D4.gz (n':=300) (by decide)).pick he [0,1,2,3] [tI N,ev,tp,dk ps] (l1:=bG c y (dF x [(cT,.str (.k (au ps)))])) rfl rfl ⟨⟨rfl,hY N⟩,⟨rfl,f1⟩,⟨rfl,f2⟩,⟨rfl,H4 ps⟩,trivial⟩ rfl fun O O h=>h;have D5:=(Lp (mg:=mg) (mb:=mb) (y:=y) (x:=x) (D:=.list (tI N)) (E:=.list ev) (T:=.list tp) hw he hc hr (v:=.str (.k (au ps)))).gz (n':=300) (by decide);have D6:=(Kt (mg:=mg) (mb:=mb) (y:=y) (x:=x) (D:=.list (tI N)) (E:=.list ev) (T:=.list tp) (U:=.list (dk ps)) (n:=bH (aE c 0) c.best ps) (f:=bH (aE c 0) (2*c.best:Nat) ps) hw hc (jW hr).t).gz (n':=300) (by decide);have D8:=UK (mg:=mg) (mb:=mb) (y:=⟨y.due,y.narrow&&aD (aE c 0) (au ps),cO (aE c 0) (au ps)⟩) (x:=x) (dl:=tI N) (tp:=tp) (U:=.list (dk ps)) hw he hc hr hd hp hev (hY N) f1 f2;rw[SX];exact A.app (G4.app (D5.app (D6.app D8)))
theorem Dy:∀ (m k:Nat) {y:Lm} {ev:List AV},k+m≤3→y.due.length+10200*m≤60000→nO c k m ev→dB ev →
  rP (ab w mg mb ε0) 300 fK.t fK.b k m ⟨bG c y [],ay⟩ [.list (tI N),.list ev,.list tp] ⟨bG c (dy c y (ip N k m)) [],ay⟩ [.list (tI N),.list (ev++et c (ip N k m)),.list tp]∧dB (ev++et c (ip N k m))
 |0,k,y,ev,_,_,_,f1=>by
  rw[show ev++et c (ip N k 0)=ev from af _];exact⟨.done,f1⟩
 |m+1,k,y,ev,hk,hd,hev,f1=>by
  apply aN (Tj (p:=bP N (4*k) % 4) (v:=au (jZ N k)) hev hk);intro l1 l2;have ht:k<3:=by lia
  have a:=HH hc (yt N k) (bP N (4*k) % 4);have T:=Op (mg:=mg) (mb:=mb) (y:=y) hw he hc hN h5 f2 ht (by lia) l1 f1;have S:Az (ab w mg mb ε0) 150 fK.t (.int (.k (.ofNat k))) ⟨bG c y [],ay⟩ [.list (tI N),.list ev,.list tp] ⟨bG c y [(iX,I k)],ay⟩ [.list (tI N),.list ev,.list tp]:=j6 hw he (show (cX [] bj 0).asg ⟨bG c y [],ay⟩ [.list (tI N),.list ev,.list tp] (.int (.k (.ofNat k))) fK.t=some (⟨bG c y [(iX,I k)],ay⟩,[.list (tI N),.list ev,.list tp]) by kernel_rfl);obtain⟨R,f⟩:=Dy m (k+1) (y:=qY c y (bP N (4*k) % 4,jZ N k)) (ev:=ev++gv c (bP N (4*k) % 4) (au (jZ N k))) (by lia) (by show (y.due++_).length+_≤_;rw[ax];show _+(d7 c (bP N (4*k) % 4) (jZ N k)).length+_≤_;lia) l2 (f1.app (Hd _ _ _));rw[aX] at R f;exact⟨.step (S.le (by decide)).h T.h R,f⟩
end
def CL(n:Nat):nX:=⟨[],bj,3,[],⟨sW [],ay⟩,[.list (cL 60 n),.any 1,.any 2],fK.it,.rng (max 1 ((n+3) / 4)),[.list (cL 60 n),.any 1,.any 2]⟩
theorem Kh:((List.range 13).all fun n=>(CL n).chk)=true:=by kernel_rfl
theorem PM:bS 15=.For fK.t fK.it fK.b [] fK.p∧ie fK.t=true∧mc fK.it=true:=by exact⟨by kernel_rfl,by kernel_rfl,by kernel_rfl⟩
end
end
section
section
section
variable {w:World}{mg mb:Str→Option Value}{ε0:Ev}(hw:ε0.P=w.params)(he:ε0.Ok)
variable {c:Lk}(hc:gK c){N:List Nat}(hN:N.length≤12)(h5:∀ n∈N,n<5040){tp:List AV}(f2:dB tp)
include hw he hc hN h5 f2
theorem Ke{y:Lm}(hd:y.due.length≤10)(hev:nO c 0 (max 1 ((N.length+3) / 4)) ev)(f1:dB ev) :
  Gz (ab w mg mb ε0) 300 [bS 15] ⟨bG c y [],ay⟩ [.list (tI N),.list ev,.list tp] .next ⟨bG c (dy c y (ip N 0 (max 1 ((N.length+3) / 4)))) [],ay⟩ [.list (tI N),.list (ev++et c (ip N 0 (max 1 ((N.length+3) / 4)))),.list tp]∧dB (ev++et c (ip N 0 (max 1 ((N.length+3) / 4)))):=by
 have hj:=aq Kh N.length (eU (by lia));have Y:=(wW (mg:=mg) (mb:=mb) (b:=0) (v:=vN c y N) (z:=gH [.list (tI N),.list ev,.list tp]) hw (ε:=dz ε0.P (fun U=>0) fun U=>[]) rfl (bM _ _ _) (CL N.length) (fun U U h=>by injection h) (fun U U U=>oN) rfl hj).le (n:=300) (by show 10*3+0+30≤300;decide);have ea:bC (ai (dz ε0.P (fun U=>0) fun U=>[]) (vN c y N) (gH [.list (tI N),.list ev,.list tp])) [.list (cL 60 N.length),.any 1,.any 2]=[.list (tI N),.list ev,.list tp]:=by
  show [aw.list (aO _ (cL 60 N.length)),.list ev,.list tp]=_;rw[zM N 60 fun j n hj=>by rw[AJ];unfold bP;rw[hj];rfl]
 have Y:Yz (ab w mg mb ε0) 300 fK.it ⟨bG c y [],ay⟩ [.list (tI N),.list ev,.list tp] (.rng (max 1 ((N.length+3) / 4))) [.list (tI N),.list ev,.list tp]:=by
  rw[←ea];exact Y
 apply aN (Dy (mg:=mg) (mb:=mb) (y:=y) (ev:=ev) hw he hc hN h5 f2 (max 1 ((N.length+3) / 4)) 0 (by lia) (by lia) hev f1);intro I f;apply d5 (qR.all (idx:=[0,1,2]) (σ:=[.list (tI N),.list ev,.list tp]) (js:=[0,1,2]) (τ:=[tI N,ev,tp]) ⟨⟨rfl,hY N⟩,⟨rfl,f1⟩,⟨rfl,f2⟩,trivial⟩);intro o2 o3 e;apply d5 PM;intro q1 q2 q3;have G:dX (ab w mg mb ε0) 300 (fun c=>exec (.For fK.t fK.it fK.b [] fK.p) c.env) ⟨bG c y [],ay⟩ [.list (tI N),.list ev,.list tp] .next ⟨bG c (dy c y (ip N 0 (max 1 ((N.length+3) / 4)))) [],ay⟩ [.list (tI N),.list (ev++et c (ip N 0 (max 1 ((N.length+3) / 4)))),.list tp] :=
  dX.range (idx:=[0,1,2]) he q2 q3 Y.h (Bool.and_eq_true_iff.mpr ⟨rfl,Bool.and_eq_true_iff.mpr ⟨o2,Bool.and_eq_true_iff.mpr ⟨o3,rfl⟩⟩⟩) (by rw[show pJ [0,1,2] _=_ from e];exact I)
 rw[←q1] at G;exact⟨⟨dX.cons @G dX.nil⟩,f⟩
end
noncomputable def FS:List Nat:=[2,4,3,1,9,10]
noncomputable def Cj:List (List Nat):=[[10],[13,10],[13],[120]]
def gq(r:Nat):Nat:=(ak FS r).getD 0
def j7(a:Nat):Nat:=Bool.rec 2 a (Nat.blt 1 a&&Nat.blt a 10)
def io(r:Nat):List Nat:=(ak Cj r).getD []
def qU(l:List Nat):List Nat:=Bool.rec l [10] (co l [120])
noncomputable def βh:Bd:=[(0,0),(1,2),(0,0),(0,0),(0,0),(0,0),(0,0),(0,0),(0,2000),(0,0),(0,2000),(0,0),(0,2000)]
noncomputable def tv(r0 r1 L:Nat):List AV:=[.int ⟨r0,[(8,6)]⟩,.int ⟨r1,[(10,4)]⟩,.any 52]++cL 53 L
noncomputable def og(r2 L:Nat):List AV:=[.any 50,.any 51,.int ⟨r2,[(12,8)]⟩]++cL 53 L
def Fh(r0 r1 L:Nat):bO:=⟨βh,bj,3,[],⟨[(iA,.cell 1),(iu,.cell 0)],ay⟩,[.any 0,.list (tv r0 r1 L)],[bS 2,bS 3,bS 4,bS 5],.next,6,
 [(iA,.cell 1),(iu,.cell 0),(qe,I (gq r0)),(lT,I (j7 (gq r0))),(oR,.str (.k (io r1))),(oI,.str (.k (qU (io r1))))],[.any 0,.list (tv r0 r1 L),.list (tI FS),.list (Cj.map fun l=>.str (.k l))]⟩
def AC(ap:Bool)(nl:SS):SS:=Bool.rec (.lit [45,45,45]::nl) [] ap
def gr(ap:Bool):List AV:=Bool.rec [fM,eH,dE] [fM] ap
def zk(ap:Bool):Nat:=Bool.rec 4 2 ap
noncomputable def mi(n:Nat):Bool:=Nat.beq (n % 2) 1
def C7(r2 L b:Nat):bO:=⟨βh,bj,3,[],⟨[(iA,.cell 1),(iu,.cell 0),(qe,.any 20),(lT,I b),(oR,.any 22),(oI,.str [.var 0])],ay⟩,[.any 0,.list (og r2 L)],[bS 6,bS 7,bS 8,bS 9,bS 10,bS 11,bS 12,bS 13,bS 14],.next,14,
 dO (.cell 1) (.cell 0) (.any 20) (I b) (.any 22) (.str [.var 0]) (.bool (mi r2)) (.bool (mi (r2 / 2))) (.bool (mi (r2 / 4))) (.str [.lit (List.replicate (b-1) 32)]) (.cell (zk (mi (r2 / 2)))) (.str (AC (mi (r2 / 2)) [.var 0])) tr ff,
 [.any 0,.list (og r2 L)]++Bool.rec [.list [fM],.list [eH,dE],.list [fM,eH,dE]] [.list [fM]] (mi (r2 / 2))⟩
theorem Tv:((List.range 6).all fun r0=>(List.range 4).all fun r1=>(List.range 4).all fun L=>(Fh r0 r1 L).chk)=true:=by kernel_rfl
theorem Nt:((List.range 8).all fun r2=>(List.range 4).all fun L=>fN.all fun b=>(C7 r2 L b).chk)=true:=by kernel_rfl
end
end
section
section
def aU(t0 t1 t2:Nat):Lk:=⟨gq (t0 % 6),j7 (gq (t0 % 6)),io (t1 % 4),qU (io (t1 % 4)),mi (t2 % 8),mi (t2 % 8 / 2),mi (t2 % 8 / 4)⟩
theorem CA(t0 t1 t2:Nat):gK (aU t0 t1 t2):=by
 have h0:=aq (show ((List.range 6).all fun r=>aK (j7 (gq r)) fN)=true by decide +kernel) (t0 % 6) (eU (Nat.mod_lt _ (by decide)));have h1:=aq (show ((List.range 4).all fun r=>Nat.ble 1 (qU (io r)).length&&Nat.ble (qU (io r)).length 2)=true by decide +kernel) (t1 % 4) (eU (Nat.mod_lt _ (by decide)));replace h1:=aB h1;exact⟨o9.mp h0,df h1.1,df h1.2⟩
def di(c:Lk):Lm:=⟨Bool.rec ([45,45,45]++c.nl) [] c.apart,true,false⟩
def εh(P:Params)(nl:List Nat)(a b d:Nat):Ev:=dz P (tn 0 [0,0,0,0,a,b,d]) (tn [] [nl])
def vh(a:Nat)(lb:List Nat)(T:List Nat):Nat→AV:=(tO (fun k=>I (bP T (k-50))) 20 [some (I a),none,some (.str (.k lb))])
theorem R5(a:Nat)(lb T:List Nat)(j:Nat):vh a lb T (50+j)=I (bP T j):=by
 unfold vh;rw[pT (show 20+3≤50+j from Nat.le_add_right_of_le (by decide)),Nat.add_sub_cancel_left]
section
variable {P:Params}{nl lb:List Nat}{a t0 t1 t2:Nat}{r:List Nat}{z:Nat→aw}
theorem TQ(h:1≤nl.length∧nl.length≤2)(h0:t0<5040)(h1:t1<5040)(h2:t2<5040):aM βh (εh P nl (t0 / 6) (t1 / 4) (t2 / 8)):=gx (by
 have e0:(0:Int)≤0∧(0:Int)≤0:=⟨bz _,bz _⟩;have l:∀ {a:Nat},a≤2000→(0:Int)≤(a:Int)∧(a:Int)≤2000:=fun h=>⟨bK _,eP h⟩;exact⟨e0,⟨eP h.1,eP h.2⟩,e0,e0,e0,e0,e0,e0,l (by lia),e0,l (by lia),e0,l (by lia),trivial⟩)
theorem Cl:aO (ai ε (vh a lb (t0::t1::t2::r)) z) (cL 53 r.length)=tI r:=zM r 53 fun j n hj=>by
 rw[show 53+j=50+(j+3) by lia,R5];show I (((ak r j).getD 0:Nat):Int)=I n;rw[hj];rfl
theorem Hi:aO (ai (εh P nl (t0 / 6) (t1 / 4) (t2 / 8)) (vh a lb (t0::t1::t2::r)) z) (tv (t0 % 6) (t1 % 4) r.length)=tI (t0::t1::t2::r):=by
 show .int (.k (((t0 % 6:Nat):Int)+(6*((t0 / 6:Nat):Int)+0)))::.int (.k (((t1 % 4:Nat):Int)+(4*((t1 / 4:Nat):Int)+0)))::vh a lb (t0::t1::t2::r) 52::aO _ (cL 53 r.length)=_;rw[Cl,show ((t0 % 6:Nat):Int)+(6*((t0 / 6:Nat):Int)+0)=t0 by lia,show ((t1 % 4:Nat):Int)+(4*((t1 / 4:Nat):Int)+0)=t1 by lia];rfl
theorem As:aO (ai (εh P nl (t0 / 6) (t1 / 4) (t2 / 8)) (vh a lb (t0::t1::t2::r)) z) (og (t2 % 8) r.length)=tI (t0::t1::t2::r):=by
 show vh a lb (t0::t1::t2::r) 50::vh a lb (t0::t1::t2::r) 51::.int (.k (((t2 % 8:Nat):Int)+(8*((t2 / 8:Nat):Int)+0)))::aO _ (cL 53 r.length)=_;rw[Cl,show ((t2 % 8:Nat):Int)+(8*((t2 / 8:Nat):Int)+0)=t2 by lia];rfl
end
def mQ:List (Str×AV):=[(iA,.cell 1),(iu,.cell 0)]
def Br(c:Lk):List (Str×AV):=mQ++[(qe,I c.asked),(lT,I c.best),(oR,.str (.k c.lb)),(oI,.str (.k c.nl))]
def Jf:List Stmt:=[bS 2,bS 3,bS 4,bS 5]
def CJ:List Stmt:=[bS 6,bS 7,bS 8,bS 9,bS 10,bS 11,bS 12,bS 13,bS 14]
section
variable {w:World}{mg mb:Str→Option Value}{ε0:Ev}(hw:ε0.P=w.params)(he:ε0.Ok){N r:List Nat}{t0 t1 t2:Nat}(h0:t0<5040)(h1:t1<5040)(h2:t2<5040)(hr:r.length≤3)
include hw he h0 h1 h2 hr
theorem RI:Gz (ab w mg mb ε0) 300 (Jf++CJ) ⟨mQ,ay⟩ [.list (tI N),.list (tI (t0::t1::t2::r))] .next ⟨bG (aU t0 t1 t2) (di (aU t0 t1 t2)) [],ay⟩ [.list (tI N),.list (gr (aU t0 t1 t2).apart),.list (tI (t0::t1::t2::r))]:=by
 have lk:=CA t0 t1 t2;have rL:r.length∈List.range 4:=eU (by lia);have j1:=aq (aq (aq Tv (t0 % 6) (eU (Nat.mod_lt _ (by decide)))) (t1 % 4) (eU (Nat.mod_lt _ (by decide)))) r.length rL;have j2:=aq (aq (aq Nt (t2 % 8) (eU (Nat.mod_lt _ (by decide)))) r.length rL) _ lk.b;have bd:=TQ (P:=ε0.P) (t0:=t0) (t1:=t1) (t2:=t2) lk.n h0 h1 h2;have eN:∀ ε v z (n:Nat),flA (ai ε v z) (I n)=I n:=fun ε v z n=>by show AV.int (.k ((am.k n).val _))=_;rw[bV];rfl
 have J1:=(ck (mg:=mg) (mb:=mb) (v:=vh (aU t0 t1 t2).asked (aU t0 t1 t2).lb (t0::t1::t2::r)) (z:=fun U=>.list (tI N)) hw (ε:=εh ε0.P (aU t0 t1 t2).nl (t0 / 6) (t1 / 4) (t2 / 8)) rfl (bM _ _ _) (Fh (t0 % 6) (t1 % 4) r.length) bd ⟨rfl,(by decide:3≤12),rfl⟩ j1).cast (ls':=⟨mQ,ay⟩) (σ':=[.list (tI N),.list (tI (t0::t1::t2::r))]) (f':=.next) (l1':=⟨Br (aU t0 t1 t2),ay⟩) rfl (by
   show [aw.list (tI N),.list (aO _ (tv (t0 % 6) (t1 % 4) r.length))]=_;rw[Hi]) rfl (by
   show (⟨mQ++[(qe,flA _ (I (gq (t0 % 6)))),(lT,flA _ (I (j7 (gq (t0 % 6))))),(oR,.str (.k ((SS.k (io (t1 % 4))).val _))),(oI,.str (.k ((SS.k (qU (io (t1 % 4)))).val _)))],ay⟩ : ac)=_;rw[eN,eN,db,db];rfl) (show _=[aw.list (tI N),.list (aO _ (tv (t0 % 6) (t1 % 4) r.length))]++_ from rfl)
 rw[Hi] at J1;have G1:=(J1.gz (n':=300) (by decide)).pick he [0,1] [tI N,tI (t0::t1::t2::r)] (l1:=Br (aU t0 t1 t2)) rfl rfl ⟨⟨rfl,hY N⟩,⟨rfl,hY _⟩,trivial⟩ rfl fun U U h=>h;have J2:=(ck (mg:=mg) (mb:=mb) (v:=vh (aU t0 t1 t2).asked (aU t0 t1 t2).lb (t0::t1::t2::r)) (z:=fun U=>.list (tI N)) hw (ε:=εh ε0.P (aU t0 t1 t2).nl (t0 / 6) (t1 / 4) (t2 / 8)) rfl (bM _ _ _) (C7 (t2 % 8) r.length (aU t0 t1 t2).best) bd ⟨rfl,(by decide:3≤12),rfl⟩ j2).cast (ls':=⟨Br (aU t0 t1 t2),ay⟩) (σ':=[.list (tI N),.list (tI (t0::t1::t2::r))]) (f':=.next)
  (l1':=⟨dO (.cell 1) (.cell 0) (I (aU t0 t1 t2).asked) (I (aU t0 t1 t2).best) (.str (.k (aU t0 t1 t2).lb)) (.str (.k (aU t0 t1 t2).nl)) (.bool (aU t0 t1 t2).wide) (.bool (aU t0 t1 t2).apart) (.bool (aU t0 t1 t2).shut) (.str (.k (cY (aU t0 t1 t2)))) (.cell (zk (aU t0 t1 t2).apart)) (.str (.k (di (aU t0 t1 t2)).due)) tr ff,ay⟩)
  (s1':=[.list (tI N),.list (tI (t0::t1::t2::r))]++Bool.rec [.list [fM],.list [eH,dE],.list [fM,eH,dE]] [.list [fM]] (aU t0 t1 t2).apart) (by
   show (⟨[(iA,.cell 1),(iu,.cell 0),(qe,I (aU t0 t1 t2).asked),(lT,flA _ (I (aU t0 t1 t2).best)),(oR,.str (.k (aU t0 t1 t2).lb)),(oI,.str (.k ((aU t0 t1 t2).nl++[])))],ay⟩ : ac)=_;rw[eN,af];rfl) (by
   show [aw.list (tI N),.list (aO _ (og (t2 % 8) r.length))]=_;rw[As]) rfl (by
   have ed:(AC (aU t0 t1 t2).apart [.var 0]).val (εh ε0.P (aU t0 t1 t2).nl (t0 / 6) (t1 / 4) (t2 / 8))=(di (aU t0 t1 t2)).due:=by
    unfold di;cases (aU t0 t1 t2).apart with
    |true=>rfl
    |false=>show [45,45,45]++((aU t0 t1 t2).nl++[])=_;rw[af]
   show (⟨dO (.cell 1) (.cell 0) (I (aU t0 t1 t2).asked) (flA _ (I (aU t0 t1 t2).best)) (.str (.k (aU t0 t1 t2).lb)) (.str (.k ((aU t0 t1 t2).nl++[]))) (.bool (aU t0 t1 t2).wide) (.bool (aU t0 t1 t2).apart) (.bool (aU t0 t1 t2).shut) (.str (.k (cY (aU t0 t1 t2)++[]))) (.cell (zk (aU t0 t1 t2).apart)) (.str (.k ((AC (aU t0 t1 t2).apart [.var 0]).val _))) tr ff,ay⟩ : ac)=_;rw[eN,ed,af,af]) (by
   show bC _ ([.any 0,.list (og (t2 % 8) r.length)]++Bool.rec _ _ (aU t0 t1 t2).apart)=_;cases (aU t0 t1 t2).apart with
   |true=>show [aw.list (tI N),.list (aO _ (og (t2 % 8) r.length)),.list [fM]]=_;rw[As];rfl
   |false=>show [aw.list (tI N),.list (aO _ (og (t2 % 8) r.length)),.list [fM],.list [eH,dE],.list [fM,eH,dE]]=_;rw[As];rfl)
 have G2:=J2.gz (n':=300) (by decide);generalize hc:aU t0 t1 t2=c at *
 clear J1 J2 j1 j2 bd hc;obtain⟨c1,c2,c3,c4,c5,c6,c7⟩:=c;cases c6 with
 |true=>exact G1.app (G2.pick he [0,2,1] [tI N,[fM],tI (t0::t1::t2::r)] rfl rfl ⟨⟨rfl,hY N⟩,⟨rfl,rfl⟩,⟨rfl,hY _⟩,trivial⟩ rfl fun U U h=>h)
 |false=>exact G1.app (G2.pick he [0,4,1] [tI N,[fM,eH,dE],tI (t0::t1::t2::r)] rfl rfl ⟨⟨rfl,hY N⟩,⟨rfl,rfl⟩,⟨rfl,hY _⟩,trivial⟩ rfl fun U U h=>h)
end
end
end
section
noncomputable def βe:Bd:=[(0,0),(0,60000),(0,0),(0,2)]
def Dd(ap sh ev du oe:AV):List (Str×AV):=dO (.cell 2) (.cell 0) (.any 20) (.any 21) (.any 22) (.str [.var 1]) (.any 24) ap sh (.any 27) ev du (.any 29) oe
def sH(b:Bool):SS:=Bool.rec [] [.lit [46,46,46],.var 1] b
def Ay(ap sh oe:Bool):SS:=.var 0::(sH (!ap&&sh)++sH (oe&&!sh))
def CX(ap sh:Bool):List AV:=Bool.rec [dG 241,gW sh] [] ap
def kE(ap:Bool):Nat:=Bool.rec 4 1 ap
def Je(ap sh oe:Bool)(n:Nat):bO:=⟨βe,bj,3,[],⟨Dd (.bool ap) (.bool sh) (.cell 1) (.str [.var 0]) (.bool oe),ay⟩,[.any 0,.list (cL 60 n),.any 2],[bS 16,bS 17,bS 18],.next,14,Dd (.bool ap) (.bool sh) (.cell (kE ap)) (.str (Ay ap sh oe)) (.bool oe),
 Bool.rec [.any 0,.list (cL 60 n),.any 2,.list [dG 241,gW sh],.list ((cL 60 n++[dG 241,gW sh])++[dG 145])] [.any 0,.list (cL 60 n++[dG 145]),.any 2] ap⟩
theorem PV:(tf.all fun ap=>tf.all fun sh=>tf.all fun oe=>(List.range 17).all fun n=>(Je ap sh oe n).chk)=true:=by kernel_rfl
noncomputable def yI(i:Nat):AV:=match i with|23=>.none|_=>ff
def gf(b:Nat)(na:Bool):Nat:=Bool.rec 1000 (2*b+1) na
def xN(a b l u na:AV)(m:List (Str×AV)):List (Str×AV):=dO (.cell 2) (.cell 0) a b l (.any 23) u (.any 25) (.any 26) (.any 27) (.cell 1) (.any 28) na (.any 30)++m
noncomputable def zP:aw:=.list [.str [.lit [13]],.str [.lit [10]],.str [.lit [13,10]]]
def Sg(b bw:Nat)(u:Bool)(nl:List Nat):St:=aS (tO (fun i=>.any i) 0 [none,none,none,some (.inst 771 [(fc,.cell 4)]),some (.list []),none,some (.list []),some (.list []),some (.list []),some zP]) (iZ u b0 ff (I 0) (I 0) (I b) (I bw) (.str (.k nl)) yI)
def Eo(r0 r1:Nat)(u na:Bool):bO:=⟨[],bj,6,[],⟨xN (I (gq r0)) (I (j7 (gq r0))) (.str (.k (io r1))) (.bool u) (.bool na) [],ay⟩,ik 0 3,[bS 19],.next,15,xN (I (gq r0)) (I (j7 (gq r0))) (.str (.k (io r1))) (.bool u) (.bool na) [(kA,.cell 5)],Sg (j7 (gq r0)) (gf (j7 (gq r0)) na) u (qU (io r1))⟩
theorem LV:((List.range 6).all fun r0=>(List.range 4).all fun r1=>tf.all fun u=>tf.all fun na=>(Eo r0 r1 u na).chk)=true:=by kernel_rfl
noncomputable def β9:Bd:=[(0,100000),(0,60000)]
def IC:bO:=⟨β9,bj,3,[],⟨[(kA,.cell 5),(mO,.str [.var 0])],ay⟩,[.any 0,.any 1,.any 2,.inst 771 [(fc,.cell 4)],.rows [.var 0] (V 0),eF (xG 0 (.cell 3)),.any 6,.any 7,.any 8,.any 9],[bS 21],.ret tr,0,[],[.any 0,.any 1,.any 2,.inst 771 [(fc,.cell 4)],.rows [.var 0] (V 0),eF (xG 0 (.cell 3)),.any 6,.any 7,.any 8,.any 9]⟩
theorem Re:IC.chk=true:=by kernel_rfl
end
section
section
def uF(nl:List Nat)(b:Bool):List Nat:=Bool.rec [] ([46,46,46]++nl) b
def jk(c:Lk)(oe:Bool):List Nat:=uF c.nl (!c.apart&&c.shut)++uF c.nl (oe&&!c.shut)
def gS(c:Lk):List AV:=CX c.apart c.shut++[dG 145]
theorem Lz(c:Lk):dB (gS c):=by unfold gS CX;cases c.apart<;>cases c.shut<;>rfl
def rj(c:Lk)(y:Lm)(ev:List AV):Nat→AV:=ke c y fun k=>(ak ev (k-60)).getD .none
theorem CE:aO (ai ε (rj c y ev) z) (cL 60 ev.length)=ev:=EX ev 60 fun j a h=>by
 have:rj c y ev (60+j)=(ak ev (60+j-60)).getD .none:=by
  unfold rj ke;exact pT (show 20+11≤60+j from Nat.le_add_right_of_le (by decide))
 rw[this,Nat.add_sub_cancel_left,h];rfl
theorem DU{ε:Ev}(h:ε.sv 1=nl)(b:Bool):(sH b).val ε=uF nl b:=by
 cases b with
 |false=>rfl
 |true=>show [46,46,46]++(ε.sv 1++[])=_;rw[af,h];rfl
theorem Oi(ε:Ev):∀ a b:SS,SS.val ε (a++b)=a.val ε++b.val ε:=by
 intro L0;induction L0 with
 |nil=>
  intro _;exact rfl
 |cons p a ih=>
  intro b;show p.val ε++SS.val ε (a++b)=_;rw[ih b];exact(aX ..).symm
theorem CR.rows0(h:CR Γ imm ρ c (.list [])):CR Γ imm ρ c (.rows (SS.k []) (.k 0)):=by
 apply eZ h.list_inv;intro _ _ _ e0 v _;subst e0;(obtain e:_=_:=ao.inv v;subst e);exact .rows (by rw[db];exact .nil) (gG _) (by rw[bV];exact bz 0)
theorem bu.rows0(h:bu Γ imm ρ cs σ):∀ k,ak σ k=some (.list [])→bu Γ imm ρ cs (dS σ k (.rows (SS.k []) (.k 0))):=by
 induction h with
 |nil=>intro k e;injection e
 |cons h g ih=>
  intro k e;cases k with
  |zero=>exact .cons (osI e▸h).rows0 g
  |succ k=>exact .cons h (ih k e)
theorem Gz.rows0(H:Gz Γ n ss ls σ f ls' σ')(k:Nat)(hk:ak σ' k=some (.list [])):Gz Γ n ss ls σ f ls' (dS σ' k (.rows (SS.k []) (.k 0))):=⟨by
 obtain⟨H⟩:=H;intro c A s m imm cs Q E C l R q;exact H C l R fun h' tk m' imm' cs' fl R' l' x' f'=>q h' tk m' imm' cs' fl ⟨R'.F,R'.N,R'.nd,R'.C.rows0 k hk,R'.l⟩ l' x' f'⟩
section
variable {w:World}{mg mb:Str→Option Value}{ε0:Ev}(hw:ε0.P=w.params)(he:ε0.Ok)
include hw he
theorem KH(hc:gK c){y:Lm}{dl ev tp:List AV}(hd:y.due.length≤60000)(hn:ev.length<17)(f0:dB dl)(f1:dB ev)(f2:dB tp) :
  Gz (ab w mg mb ε0) 300 [bS 16,bS 17,bS 18] ⟨bG c y [],ay⟩ [.list dl,.list ev,.list tp] .next ⟨bG c ⟨y.due++jk c y.oe,y.narrow,y.oe⟩ [],ay⟩ [.list dl,.list (ev++gS c),.list tp]:=by
 have hj:=aq (aq (aq (aq PV c.apart (cU _)) c.shut (cU _)) y.oe (cU _)) ev.length (eU hn);generalize hε:dz ε0.P (fun U=>0) (tn [] [y.due,c.nl])=ε;have h0:ε.sv 0=y.due:=by rw[←hε];rfl
 have h1:ε.sv 1=c.nl:=by rw[←hε];rfl
 have hbd:aM βe ε:=by
  rw[←hε];exact gx ⟨⟨bz 0,bz 0⟩,⟨bK _,eP hd⟩,⟨bz 0,bz 0⟩,⟨bK _,eP hc.n.2⟩,trivial⟩
 have ed:(Ay c.apart c.shut y.oe).val ε=y.due++jk c y.oe:=by
  show ε.sv 0++SS.val ε (sH (!c.apart&&c.shut)++sH (y.oe&&!c.shut))=_;rw[Oi,DU h1,DU h1,h0];rfl
 have J:=(ck (mg:=mg) (mb:=mb) (v:=rj c y ev) (z:=gH [.list dl,.list ev,.list tp]) hw (ε:=ε) (by rw[←hε];rfl) (by rw[←hε];exact bM _ _ _) (Je c.apart c.shut y.oe ev.length) hbd ⟨rfl,(by decide:3≤12),rfl⟩ hj).cast (ls':=⟨bG c y [],ay⟩) (σ':=[.list dl,.list ev,.list tp]) (f':=.next) (l1':=⟨jC (kE c.apart) c ⟨y.due++jk c y.oe,y.narrow,y.oe⟩ [],ay⟩) (by
   show (⟨dO (.cell 2) (.cell 0) (I c.asked) (I c.best) (.str (.k c.lb)) (.str (.k (ε.sv 1++[]))) (.bool c.wide) (.bool c.apart) (.bool c.shut) (.str (.k (cY c))) (.cell 1) (.str (.k (ε.sv 0++[]))) (.bool y.narrow) (.bool y.oe),ay⟩ : ac)=_;rw[h0,h1,af,af];rfl) (by
   show [aw.list dl,.list (aO _ (cL 60 ev.length)),.list tp]=_;rw[CE]) rfl (by
   show (⟨dO (.cell 2) (.cell 0) (I c.asked) (I c.best) (.str (.k c.lb)) (.str (.k (ε.sv 1++[]))) (.bool c.wide) (.bool c.apart) (.bool c.shut) (.str (.k (cY c))) (.cell (kE c.apart)) (.str (.k ((Ay c.apart c.shut y.oe).val ε))) (.bool y.narrow) (.bool y.oe),ay⟩ : ac)=_;rw[ed,h1,af];rfl) rfl
 have ff:=f1.app (Lz c);have at1:∀ l:List AV,aO (ai ε (rj c y ev) (gH [.list dl,.list ev,.list tp])) (cL 60 ev.length++l)=ev++aO (ai ε (rj c y ev) (gH [.list dl,.list ev,.list tp])) l:=fun l=>by rw[ot,CE]
 clear hj;obtain⟨c1,c2,c3,c4,c5,c6,c7⟩:=c;cases c6 with
 |true=>
  refine(J.gz (n':=300) (by decide)).pick he [0,1,2] [dl,ev++[dG 145],tp] (l1:=jC 1 _ _ []) rfl rfl ⟨⟨rfl,f0⟩,⟨?_,ff⟩,⟨rfl,f2⟩,trivial⟩ rfl fun U U h=>h;show some (aw.list (aO _ (cL 60 ev.length++[dG 145])))=_;rw[at1];rfl
 |false=>
  refine(J.gz (n':=300) (by decide)).pick he [0,4,2] [dl,ev++[dG 241,gW c7,dG 145],tp] (l1:=jC 4 _ _ []) rfl rfl ⟨⟨rfl,f0⟩,⟨?_,ff⟩,⟨rfl,f2⟩,trivial⟩ rfl fun U U h=>h;show some (aw.list (aO _ ((cL 60 ev.length++[dG 241,gW c7])++[dG 145])))=_;rw[aX,at1];rfl
end
end
end
section
section
def zE(A B C:aw):Nat→aw:=(tn zP [A,B,C])
def gg(c:Lk)(y:Lm)(o:List (Str×AV)):List (Str×AV):=bG c y ((kA,.cell 5)::o)
structure OF where
 t:Expr
 it:Expr
 o:Expr
 x:Str
 ap:Pos
 as:List Expr
 cp:Pos
 p:Pos
 p2:Pos
def em:OF:=match bS 20 with|.For t it [.Expr (.Call (.Attribute o x ap) as _ cp) p] _ p2=>⟨t,it,o,x,ap,as,cp,p,p2⟩|_=>⟨.Constant .none 0 default,.Constant .none 0 default,.Constant .none 0 default,n0,default,[],default,default,default⟩
def AI:Stmt:=.Expr (.Call (.Attribute em.o em.x em.ap) em.as [] em.cp) em.p
theorem On:bS 20=.For em.t em.it [AI] [] em.p2:=by kernel_rfl
theorem RQ:eD 330 gL=some (cM 330):=by kernel_rfl
section
variable {w:World}{mg mb:Str→Option Value}{ε0:Ev}(hw:ε0.P=w.params)(he:ε0.Ok)
include hw
theorem Uw:Gz (ab w mg mb ε0) 300 [bS 19] ⟨bG (aU t0 t1 t2) y [],ay⟩ [A,B,C] .next ⟨gg (aU t0 t1 t2) y [],ay⟩ (j0 (aE (aU t0 t1 t2) (gf (aU t0 t1 t2).best y.narrow)) (zE A B C) b0 [] (m9 yI)):=by
 have hj:=aq (aq (aq (aq LV (t0 % 6) (eU (Nat.mod_lt _ (by decide)))) (t1 % 4) (eU (Nat.mod_lt _ (by decide)))) (aU t0 t1 t2).wide (cU _)) y.narrow (cU _);have eN:∀ ε v z (n:Nat),flA (ai ε v z) (I n)=I n:=fun ε v z n=>by show AV.int (.k ((am.k n).val _))=_;rw[bV];rfl
 have el:∀ m,cC (ai (dz ε0.P (fun U=>0) fun U=>[]) (ke (aU t0 t1 t2) y fun U=>.none) (gH [A,B,C])) ⟨xN (I (gq (t0 % 6))) (I (j7 (gq (t0 % 6)))) (.str (.k (io (t1 % 4)))) (.bool (aU t0 t1 t2).wide) (.bool y.narrow) m,ay⟩=⟨bG (aU t0 t1 t2) y (fQ (ai (dz ε0.P (fun U=>0) fun U=>[]) (ke (aU t0 t1 t2) y fun U=>.none) (gH [A,B,C])) m),ay⟩:=fun m=>by
  show (⟨dO (.cell 2) (.cell 0) (flA _ (I (gq (t0 % 6)))) (flA _ (I (j7 (gq (t0 % 6))))) (.str (.k ((SS.k (io (t1 % 4))).val _))) _ _ _ _ _ _ _ _ _++_,ay⟩ : ac)=_;rw[eN,eN,db];rfl
 have J:=(ck (mg:=mg) (mb:=mb) (v:=ke (aU t0 t1 t2) y fun U=>.none) (z:=gH [A,B,C]) hw (ε:=dz ε0.P (fun U=>0) fun U=>[]) rfl (bM _ _ _) (Eo (t0 % 6) (t1 % 4) (aU t0 t1 t2).wide y.narrow) (fun U U h=>by injection h) ⟨rfl,(by decide:6≤12),rfl⟩ hj).cast (el []) rfl rfl (el [(kA,.cell 5)]) (s1':=aS (tO (fun i=>zE A B C i) 0 [none,none,none,some (.inst 771 [(fc,.cell 4)]),some (.list []),none,some (.list []),some (.list []),some (.list [])]) (iZ (aU t0 t1 t2).wide b0 ff (I 0) (I 0) (I (aU t0 t1 t2).best) (I (gf (aU t0 t1 t2).best y.narrow)) (.str (.k (aU t0 t1 t2).nl)) yI)) (by
   have e:fC (ai (dz ε0.P (fun U=>0) fun U=>[]) (ke (aU t0 t1 t2) y fun U=>.none) (gH [A,B,C])) (eF (iZ (aU t0 t1 t2).wide b0 ff (I 0) (I 0) (I (aU t0 t1 t2).best) (I (gf (aU t0 t1 t2).best y.narrow)) (.str (.k (aU t0 t1 t2).nl)) yI))=eF (iZ (aU t0 t1 t2).wide b0 ff (I 0) (I 0) (I (aU t0 t1 t2).best) (I (gf (aU t0 t1 t2).best y.narrow)) (.str (.k (aU t0 t1 t2).nl)) yI):=by
    show eF (iZ (aU t0 t1 t2).wide b0 ff (I 0) (I 0) (flA _ (I (aU t0 t1 t2).best)) (flA _ (I (gf (aU t0 t1 t2).best y.narrow))) (.str (.k ((SS.k (aU t0 t1 t2).nl).val _))) yI)=_;rw[eN,eN,db]
   show [A,B,C,aw.inst 771 [(fc,.cell 4)],.list [],fC _ (eF (iZ (aU t0 t1 t2).wide b0 ff (I 0) (I 0) (I (aU t0 t1 t2).best) (I (gf (aU t0 t1 t2).best y.narrow)) (.str (.k (aU t0 t1 t2).nl)) yI)),.list [],.list [],.list [],zP]=_;rw[e];rfl)
 exact(J.gz (n':=300) (by decide)).rows0 4 rfl
include he
theorem JQ(R:Rz (ab w mg mb ε0) 295 σ 330 [.cell 5,e] .none σ1)(E:G0 C σ):aQ (ab w mg mb ε0) 300 [AI] ⟨gg c y [(iO,e)],ay⟩ σ .next ⟨gg c y [(iO,e)],ay⟩ σ1:=by
 have P:=mZ (mg:=mg) (mb:=mb) hw he;have A:=gu P 300 27;apply aN (P.hf 330 _ RQ);intro g1 _;obtain⟨_,x,hx⟩:=E;have Y:=JS (P:=P) (N:=300) (d:=27) (f:=330) (vs:=[e]) (ov:=.cell 5) (o:=em.o) (x:=em.x) (ap:=em.ap) (cp:=em.cp) (as:=em.as) (σ:=σ) (ls:=⟨gg c y [(iO,e)],ay⟩) g1 R (by kernel_rfl) (by kernel_rfl) (by
  show obp (ob (ak σ 5) zf) (fun C fs=>Option.rec (motive:=fun U=>Option AV) (ob ((l9 [] bj).ci C) fun c=>wL 5 em.x c) (fun v=>gd (vJ v) (some v)) (lk em.x fs))=_;rw[hx];kernel_rfl) (by kernel_rfl) (by kernel_rfl)
 exact(Dz.expr (pos:=em.p) A.E (by kernel_rfl) Y).one
theorem J8:∀ (es pre:List AV) {σ σ':St} (o:List (Str×AV)),k7 (ab w mg mb ε0) 295 (.list evs) es σ σ'→evs=pre++es→ak σ' 1=some (.list evs)→(o=[]∨∃ u,o=[(iO,u)]) →
  ∃ o',Fz (ab w mg mb ε0) 300 em.t [AI] (.lst 1 pre.length) ⟨gg c y o,ay⟩ σ .next ⟨gg c y o',ay⟩ σ':=by
 intro L0;induction L0 with
 |nil=>
  intro pre σ σ' o h e hf _;obtain rfl:σ=σ':=h;refine⟨o,.stop ?_⟩;show ob (ob (ak σ 1) tQ) (fun xs=>some (sd 1 pre.length xs))=_;rw[hf];show some (ob (ak evs pre.length) fun v=>some (v,It.lst 1 (pre.length+1)))=_;rw[e,af,dH,List.getElem?_eq_none (Nat.le_refl _)];rfl
 |cons a es ih=>
  intro pre σ σ' o h e hf ho;obtain⟨σ1,⟨R,E⟩,H⟩:=h;obtain⟨o',F⟩:=ih (pre++[a]) [(iO,a)] H (by rw[e,aX];rfl) hf (.inr ⟨a,rfl⟩);rw[ax] at F;have hn:kJ σ (.lst 1 pre.length)=some (some (a,.lst 1 (pre.length+1))):=by
   show ob (ob (ak σ 1) tQ) (fun xs=>some (sd 1 pre.length xs))=_;rw[E.1];show some (ob (ak evs pre.length) fun v=>some (v,It.lst 1 (pre.length+1)))=_;rw[e,dH,List.getElem?_append_right (Nat.le_refl _),Nat.sub_self];rfl
  have S:Az (ab w mg mb ε0) 150 em.t a ⟨gg c y o,ay⟩ σ ⟨gg c y [(iO,a)],ay⟩ σ:=by
   rcases ho with rfl|⟨u,rfl⟩
   ·exact j6 hw he (show (cX [] bj 0).asg ⟨gg c y [],ay⟩ σ a em.t=some (⟨gg c y [(iO,a)],ay⟩,σ) by kernel_rfl)
   ·exact j6 hw he (show (cX [] bj 0).asg ⟨gg c y [(iO,u)],ay⟩ σ a em.t=some (⟨gg c y [(iO,a)],ay⟩,σ) by kernel_rfl)
  exact⟨o',.step hn (S.le (by decide)) (JQ hw he R E) F⟩
theorem OD(H:k7 (ab w mg mb ε0) 295 (.list evs) evs σ σ')(h1:ak σ 1=some (.list evs))(hf:ak σ' 1=some (.list evs)):∃ o,aQ (ab w mg mb ε0) 300 [bS 20] ⟨gg c y [],ay⟩ σ .next ⟨gg c y o,ay⟩ σ':=by
 apply bx (J8 hw he evs [] [] H rfl hf (.inl rfl));intro o F;have Y:Yz (ab w mg mb ε0) 150 em.it ⟨gg c y [],ay⟩ σ (.cell 1) σ:=GS hw he (d:=0) (by decide) (by kernel_rfl);rw[On];exact⟨o,(Dz.for_ (pos:=em.p2) (by kernel_rfl) (by kernel_rfl) (Y.le (by decide)) (show ob (ob (ak σ 1) tQ) (fun U=>some (It.lst 1 0))=some (.lst 1 0) by rw[h1];rfl) F).one⟩
omit he in
theorem TN{y:Lm}{E:Es}(hT:E.T=y.due)(hl:y.due.length≤60000)(hn:0≤E.n∧E.n≤100000):∃ L σ',aQ (ab w mg mb ε0) 300 [bS 21] ⟨gg c y o,ay⟩ (j0 g z jo [] E) (.ret tr) L σ':=by
 have J:=ck (mg:=mg) (mb:=mb) (v:=fun k=>iZ g.u jo (.bool E.oe) (I E.line) (I E.col) (I g.best) (I g.bw) (.str (.k g.nl)) E.y (k-30)) (z:=v4 z jo [] (.k E.T) (.k E.n)) hw (ε:=dz ε0.P (fun U=>E.n) (fun U=>E.T)) rfl (bM _ _ _) IC (gx ⟨hn,⟨bK _,eP (hT▸hl)⟩,trivial⟩) ⟨rfl,(by decide:3≤12),rfl⟩ Re;have J:=J.cast (ls':=⟨[(kA,.cell 5),(mO,.str (.k y.due))],ay⟩) (σ':=j0 g z jo [] E) (f':=.ret tr) (by
  show (⟨[(kA,.cell 5),(mO,.str (.k (E.T++[])))],ay⟩ : ac)=_;rw[af,hT]) (by
  show aS (tO (fun i=>v4 z jo [] (.k E.T) (.k E.n) i) 0 [none,none,none,some (.inst 771 [(fc,.cell 4)]),some (.rows (.k (E.T++[])) (.k ((V 0).val _)))]) (iZ g.u jo (.bool E.oe) (I E.line) (I E.col) (I g.best) (I g.bw) (.str (.k g.nl)) E.y)=_;rw[af,bQ];rfl) rfl rfl rfl
 replace J:aQ (ab w mg mb ε0) 150 [bS 21] ⟨[(kA,.cell 5),(mO,.str (.k y.due))],ay⟩ (j0 g z jo [] E) (.ret tr) _ _:=J;refine⟨_,_,Dz.le (n':=150) (by decide) (Dz.pre (ls:=⟨[(kA,.cell 5),(mO,.str (.k y.due))],ay⟩) (ls0:=⟨gg c y o,ay⟩) rfl (fun x v hx=>?_) J)⟩;replace hx:lk x [(kA,AV.cell 5),(mO,.str (.k y.due))]=some v:=hx;rw[fE,fE] at hx
 by_cases q:kA=x
 ·rw[if_pos q] at hx
  rw[←q,←osI hx];kernel_rfl
 ·rw[if_neg q] at hx
  by_cases q:mO=x
  ·rw[if_pos q] at hx
   rw[←q,←osI hx];kernel_rfl
  ·rw[if_neg q] at hx;injection hx
end
end
end
section
section
section
variable {c:Lk}
theorem DI(c:Lk):∀ (L:List (Nat×bN)) (y:Lm),(dy c y L).due=y.due++L.flatMap fun t=>d7 c t.1 t.2:=by
 intro L0;induction L0 with
 |nil=>
  intro y;exact(af _).symm
 |cons t r ih=>
  intro y;show (dy c (qY c y t) r).due=_;rw[ih,List.flatMap_cons,←aX];rfl
theorem Rb(c:Lk):∀ (L:List (Nat×bN)) (y:Lm),(dy c y L).narrow=true→∀ t∈L,aD (aE c 0) (au t.2)=true:=by
 intro L0;induction L0 with
 |nil=>
  intro _ _;exact nofun
 |cons t r ih=>
  intro y h;have key:∀ (r:List (Nat×bN)) (y:Lm),(dy c y r).narrow=true→y.narrow=true:=fun r=>by
   induction r with
   |nil=>exact fun y h=>h
   |cons t r ih=>exact fun y h=>(aB (ih (qY c y t) h)).1
  intro x hx;rcases bU hx with rfl|hx
  ·exact(aB (key r _ h)).2
  ·exact ih _ h x hx
noncomputable def fW(L:List (Nat×bN)):List (Nat×List Nat):=L.map fun t=>(t.1,au t.2)
theorem TD(c:Lk):∀ (L:List (Nat×bN)) (y:Lm) (bw:Int),(dy c y L).oe=j9 (aE c bw) y.oe (fW L):=by
 intro L0;induction L0 with
 |nil=>
  intro _ _;exact rfl
 |cons t r ih=>
  intro y bw;exact ih (qY c y t) bw
theorem Nz(g:Gs):∀ (L:List (Nat×List Nat)) (b:Bool),uS g b (L.map Prod.snd)=j9 g b L:=by
 intro L0;induction L0 with
 |nil=>
  intro _;exact rfl
 |cons t r ih=>
  intro b;exact ih _
theorem EI(N:List Nat):∀ (m k:Nat),(∀ t∈ip N k m,d4 t.2)∧(ip N k m).length=m
 |0,_=>⟨nofun,rfl⟩
 |m+1,k=>by
  apply aN (EI N m (k+1));intro h1 h2;refine⟨fun t ht=>?_,congrArg (·+1) h2⟩;rcases bU ht with rfl|ht
  ·exact yt N k
  ·exact h1 t ht
theorem PJ(hc:gK c):∀ (L:List (Nat×bN)),(∀ t∈L,d4 t.2)→(L.flatMap fun t=>d7 c t.1 t.2).length≤10200*L.length:=by
 intro L0;induction L0 with
 |nil=>
  intro _;exact Nat.le_refl _
 |cons t r ih=>
  intro h;have a:=HH hc (h t (.head _)) t.1;have b:=ih fun x hx=>h x (.tail _ hx);rw[List.flatMap_cons,ax,bb];lia
theorem Qm(c:Lk):∀ (L:List (Nat×bN)),(et c L).length≤4*L.length:=by
 intro L0;induction L0 with
 |nil=>
  exact Nat.le_refl _
 |cons t r ih=>
  have b:=ih;have a:(gv c t.1 (au t.2)).length≤4:=by
   unfold gv;cases c.apart with
   |true=>show 3≤4;decide
   |false=>match t.1 with
    |0=>show 1≤4;decide
    |1=>exact Nat.le_refl 4
    |2=>show 3≤4;decide
    |_+3=>exact Nat.le_refl 4
  show (gv c t.1 (au t.2)++et c r).length≤4*(r.length+1);rw[ax];lia
theorem Uy(ha:c.apart=false)(h:d4 ps)(p:Nat)(bw:Int):d7 c p ps=iJ (aE c bw) p (au ps):=by
 have n1:=vc (g:=aE c bw) (ind:=c.best) h;have n2:=vc (g:=aE c bw) (ind:=(2*c.best:Nat)) h;have e2:((2*c.best:Nat):Int)=2*(c.best:Int):=by lia
 have ep:cY c=dL ((c.best:Int)-1):=by unfold cY dL;congr 1;lia
 unfold d7 iJ;rw[ha]
 match p with
 |0=>exact congrArg (45::·) n1
 |1=>
  show 45::(cY c++(107::58::(32::bH (aE c bw) (2*c.best:Nat) ps)))=(45::(dL ((c.best:Int)-1)++(107::58::dJ (aE c bw) (2*(c.best:Int)) (au ps))))++_;rw[n2,ep,←e2,List.cons_append,aX];rfl
 |2=>
  show 45::(cY c++(45::(32::bH (aE c bw) (2*c.best:Nat) ps)))=(45::(dL ((c.best:Int)-1)++(45::dJ (aE c bw) (2*(c.best:Int)) (au ps))))++_;rw[n2,ep,←e2,List.cons_append,aX];rfl
 |p+3=>
  show 45::(cY c++Bool.rec _ _ (dW (au ps)))=(Bool.rec _ _ (dW (au ps)):List Nat)++_;cases dW (au ps) with
  |false=>
   show 45::(cY c++(63::((32::bH (aE c bw) (2*c.best:Nat) ps)++(dL c.best++(58::(32::bH (aE c bw) (2*c.best:Nat) ps))))))=(45::(dL ((c.best:Int)-1)++(63::(dJ (aE c bw) (2*(c.best:Int)) (au ps)++(cW (aE c bw) (aD (aE c bw) (au ps))++(dL c.best++(58::dJ (aE c bw) (2*(c.best:Int)) (au ps))))))))++_;rw[n2,ep,←e2];simp only [aX,List.cons_append]
  |true=>
   show 45::(cY c++((34::((au ps).flatMap (bL c.wide)++[34]))++(58::(32::bH (aE c bw) (2*c.best:Nat) ps))))=(45::(dL ((c.best:Int)-1)++(34::(((bB c.wide (au ps) []).1++[34])++(58::dJ (aE c bw) (2*(c.best:Int)) (au ps))))))++_;rw[n2,ep,←e2,Jr _ _ _ (jW h).t.al];simp only [aX,List.cons_append,List.nil_append]
theorem TF(ha:c.apart=true)(h:d4 ps)(p:Nat)(bw:Int):d7 c p ps=kM (aE c bw) c.shut (au ps):=by
 have n1:=vc (g:=aE c bw) (ind:=c.best) h;unfold d7 kM;rw[ha];show [45,45,45]++((32::bH (aE c bw) c.best ps)++eR (aE c bw) c.shut)=_;rw[n1,aX];rfl
end
end
end
section
section
def qm:List Stmt:=(Jf++CJ)++([bS 15]++([bS 16,bS 17,bS 18]++([bS 19]++([bS 20]++[bS 21]))))
theorem PL(h:gK c)(na:Bool):eX (aE c (gf c.best na)):=⟨h.b,h.n,by
 have hb:2≤(c.best:Int)∧(c.best:Int)≤9:=je (oG h);unfold gf;cases na with
 |false=>exact(by decide:(0:Int)≤((1000:Nat):Int)∧((1000:Nat):Int)≤1000)
 |true=>exact⟨bK _,by show ((2*c.best+1:Nat):Int)≤1000;lia⟩⟩
theorem KL(h:d4 ps)(hn:na=true→aD (aE c 0) (au ps)=true):e9 (aE c (gf c.best na)) (au ps):=⟨(jW h).t,fun hs=>by
 cases na with
 |false=>rfl
 |true=>have:=hn rfl;rw[show aD (aE c 0) (au ps)=aD (aE c (gf c.best true)) (au ps) from rfl,hs] at this;injection this⟩
theorem uE{α β γ:Type}(f:α→β)(g:β→List γ)(l:List α):(l.map f).flatMap g=l.flatMap fun a=>g (f a):=by
 induction l with
 |nil=>rfl
 |cons a r ih=>rw[List.map_cons,List.flatMap_cons,List.flatMap_cons,ih]
theorem vK{α γ:Type}{f g:α→List γ}:∀ {l:List α},(∀ x∈l,f x=g x)→l.flatMap f=l.flatMap g:=by
 intro L0;induction L0 with
 |nil=>
  intro _;exact rfl
 |cons a r ih=>
  intro h;rw[List.flatMap_cons,List.flatMap_cons,h a (.head _),ih fun x hx=>h x (.tail _ hx)]
section
variable {w:World}{mg mb:Str→Option Value}{ε0:Ev}(hw:ε0.P=w.params)(he:ε0.Ok)
include hw
theorem TY(hc:gK c)(hL:∀ t∈L,d4 t.2)(h0:L≠[])(h3:L.length≤3)(hy:y=dy c (di c) L) :
  ∃ E,k7 (ab w mg mb ε0) 295 (.list ((gr c.apart++et c L)++gS c)) ((gr c.apart++et c L)++gS c) (j0 (aE c (gf c.best y.narrow)) (zE A (.list ((gr c.apart++et c L)++gS c)) T) b0 [] (m9 yI)) (j0 (aE c (gf c.best y.narrow)) (zE A (.list ((gr c.apart++et c L)++gS c)) T) jo [] E)∧E.T=y.due++jk c y.oe∧(0≤E.n∧E.n≤100000):=by
 have hg:=PL hc y.narrow;replace ht:∀ t∈L,e9 (aE c (gf c.best y.narrow)) (au t.2):=fun t ht=>KL (hL t ht) fun hn=>Rb c L (di c) (hy▸hn) t ht;have hdue:y.due=(di c).due++L.flatMap fun t=>d7 c t.1 t.2:=by rw[hy];exact DI c L _
 have hoe:y.oe=j9 (aE c (gf c.best y.narrow)) false (fW L):=by rw[hy];exact TD c L _ _
 generalize gf c.best y.narrow=bw at *
 have en:∀ {o:List Nat} {E':Es} {oe br:Bool},jF (m9 yI) E' 40 o oe br→E'.T=o∧(0≤E'.n∧E'.n≤100000):=fun G=>⟨G.t,G.n.1,by have:=G.n.2;have e:(m9 yI).n=0:=rfl;rw[e] at this;lia⟩;have ml:(fW L).length≤3:=by unfold fW;rw[List.length_map];exact h3
 have m0:fW L≠[]:=by cases L with|nil=>exact absurd rfl h0|cons=>exact List.cons_ne_nil _ _
 cases ha:c.apart with
 |false=>
  have e:(gr false++et c L)++gS c=[fM]++([eH,dE]++(((fW L).flatMap fun t=>dU t.1 t.2)++([dG 241]++([gW c.shut]++[dG 145])))):=by
   have e1:et c L=(fW L).flatMap fun t=>dU t.1 t.2:=by
    unfold et fW;rw[uE];exact vK fun t U=>by unfold gv;rw[ha]
   unfold gS;rw[ha,e1,aX];rfl
  obtain⟨oe,E',M,G⟩:=PU (z:=zE A (.list ((gr false++et c L)++gS c)) T) (y:=yI) hw hg (L:=fW L) (fun t ht'=>by
   apply ah (dm ht');intro t h e0;subst e0;exact ht t h) m0 ml c.shut
  apply aN (en G);intro hT hn;rw[←e] at M;refine⟨E',M,?_,hn⟩;rw[hT,hdue,hoe];have e2:(L.flatMap fun t=>d7 c t.1 t.2)=(fW L).flatMap fun t=>iJ (aE c bw) t.1 t.2:=by
   unfold fW;rw[uE];exact vK fun t h=>Uy ha (hL t h) t.1 bw
  unfold di jk;rw[ha,e2];show _=(([45,45,45]++c.nl)++_)++(eR (aE c bw) c.shut++eR (aE c bw) (j9 (aE c bw) false (fW L)&&!c.shut));rw[Bool.and_comm];simp only [aX];rfl
 |true=>
  have e:(gr true++et c L)++gS c=[fM]++((((fW L).map Prod.snd).flatMap (uM c.shut))++[dG 145]):=by
   have e1:et c L=((fW L).map Prod.snd).flatMap (uM c.shut):=by
    unfold et fW;rw[List.map_map,uE];exact vK fun t U=>by unfold gv;rw[ha];rfl
   unfold gS;rw[ha,e1,aX];rfl
  obtain⟨E',M,G⟩:=Mr (z:=zE A (.list ((gr true++et c L)++gS c)) T) (y:=yI) hw hg (L:=(fW L).map Prod.snd) (fun v hv=>by
   apply ah (dm hv);intro x hx e0;subst e0;apply ah (dm hx);intro t h e0;subst e0;exact ht t h) (by intro q;exact m0 (List.map_eq_nil_iff.mp q)) (by rw[List.length_map];exact ml) c.shut
  apply aN (en G);intro hT hn;rw[←e] at M;refine⟨E',M,?_,hn⟩;rw[hT,hdue,hoe,Nz];have e2:(L.flatMap fun t=>d7 c t.1 t.2)=((fW L).map Prod.snd).flatMap (kM (aE c bw) c.shut):=by
   unfold fW;rw[List.map_map,uE];exact vK fun t h=>TF ha (hL t h) t.1 bw
  unfold di jk;rw[ha,e2,Bool.and_comm];rfl
include he
theorem P4{N r:List Nat}(hN:N.length≤12)(h5:∀ n∈N,n<5040)(h0:t0<5040)(h1:t1<5040)(h2:t2<5040)(hr:r.length≤3) :
  ∃ L1 σ1,Gz (ab w mg mb ε0) 300 qm ⟨mQ,ay⟩ [.list (tI N),.list (tI (t0::t1::t2::r))] (.ret tr) L1 σ1:=by
 have G1:=RI (mg:=mg) (mb:=mb) (N:=N) hw he h0 h1 h2 hr;have hc:=CA t0 t1 t2;have he2:=fun y A B C=>Uw (mg:=mg) (mb:=mb) (t0:=t0) (t1:=t1) (t2:=t2) (y:=y) (A:=A) (B:=B) (C:=C) hw;generalize aU t0 t1 t2=c at *
 have hk:1≤max 1 ((N.length+3) / 4)∧max 1 ((N.length+3) / 4)≤3:=by lia
 have fe:dB (gr c.apart):=by cases c.apart<;>rfl
 have n2:=hc.n.2;have l0:(di c).due.length≤10:=by
  unfold di;cases c.apart with
  |true=>exact Nat.zero_le _
  |false=>show ([45,45,45]++c.nl).length≤10;rw[ax];show 3+_≤10;lia
 have lev:(gr c.apart).length≤3:=by cases c.apart<;>decide
 have hev:nO c 0 (max 1 ((N.length+3) / 4)) (gr c.apart):=by
  unfold nO;cases c.apart with
  |true=>rfl
  |false=>show 3+4*_≤15;lia
 apply aN (Ke (mg:=mg) (mb:=mb) (y:=di c) (ev:=gr c.apart) hw he hc hN h5 (hY (t0::t1::t2::r)) l0 hev fe);intro G2 f2;apply aN (EI N (max 1 ((N.length+3) / 4)) 0);intro hL hlen;generalize ip N 0 (max 1 ((N.length+3) / 4))=L at *
 have hl0:L≠[]:=fun q=>by rw[q] at hlen;have:0=max 1 ((N.length+3) / 4):=hlen;lia
 have hl3:L.length≤3:=by lia
 have dl:(dy c (di c) L).due.length≤40000:=by
  rw[DI,ax];have:=PJ hc L hL;lia
 have le:=Qm c L;have G3:=KH (mg:=mg) (mb:=mb) (y:=dy c (di c) L) (dl:=tI N) (ev:=gr c.apart++et c L) (tp:=tI (t0::t1::t2::r)) hw he hc (by lia) (by rw[ax];lia) (hY N) f2 (hY _);have G4:=he2 ⟨(dy c (di c) L).due++jk c (dy c (di c) L).oe,(dy c (di c) L).narrow,(dy c (di c) L).oe⟩ (.list (tI N)) (.list ((gr c.apart++et c L)++gS c)) (.list (tI (t0::t1::t2::r)));apply dh (TY (mg:=mg) (mb:=mb) (ε0:=ε0) hw hc hL hl0 hl3 rfl (A:=.list (tI N)) (T:=.list (tI (t0::t1::t2::r))));intro E M eT eN;apply bx (OD (c:=c) (y:=⟨(dy c (di c) L).due++jk c (dy c (di c) L).oe,(dy c (di c) L).narrow,(dy c (di c) L).oe⟩) hw he M rfl rfl);intro o D5;have de:(jk c (dy c (di c) L).oe).length≤10:=by
  have d:∀ b,(uF c.nl b).length≤5:=fun b=>by cases b;exact Nat.zero_le _;show ([46,46,46]++c.nl).length≤5;rw[ax];show 3+_≤5;lia
  unfold jk;rw[ax];have:=d (!c.apart&&c.shut);have:=d ((dy c (di c) L).oe&&!c.shut);lia
 obtain⟨L1,σ1,D6⟩:=TN (mg:=mg) (mb:=mb) (c:=c) (y:=⟨(dy c (di c) L).due++jk c (dy c (di c) L).oe,(dy c (di c) L).narrow,(dy c (di c) L).oe⟩) (o:=o) (g:=aE c (gf c.best (dy c (di c) L).narrow)) (z:=zE (.list (tI N)) (.list ((gr c.apart++et c L)++gS c)) (.list (tI (t0::t1::t2::r)))) (E:=E) hw eT (by show ((dy c (di c) L).due++jk c (dy c (di c) L).oe).length≤_;rw[ax];lia) eN;exact⟨L1,σ1,G1.app (G2.app (G3.app (G4.app ((D5.gz (Nat.le_refl _)).app (D6.gz (Nat.le_refl _))))))⟩
end
end
end
section
structure vq (ys:List Value) (l:List Int):Prop where
 h:IntsAre ys (l.map fun a=>a.fmod 5040)
theorem H7{l:List Int}(h:CarriedAll ys ((l.filter fun U=>true).map fun a=>PyData.int (a.fmod 5040))):vq ys l:=by
 rw[List.filter_eq_self.mpr fun U U=>rfl] at h;exact⟨CarriedAll.intsOf h⟩
noncomputable def j4(l:List Int):List Nat:=l.map fun a=>(a.fmod 5040).toNat
theorem Cv(h:vq ys l):ao Γ imm ρ ys (tI (j4 l)):=by
 obtain⟨h⟩:=h;induction l generalizing ys with
 |nil=>cases h;exact .nil
 |cons a r ih=>
  cases h with
  |cons _ t h=>
   refine .cons (.int ?_) (ih h);show a.fmod 5040=(am.k ((a.fmod 5040).toNat:Int)).val _;rw[bV];exact(Int.toNat_of_nonneg (Int.fmod_nonneg_of_pos a (by decide))).symm
theorem I9(l:List Int):∀ n∈j4 l,n<5040:=fun n hn=>by
 apply ah (dm hn);intro a _ e0;subst e0;have:=Int.fmod_lt_of_pos a (b:=5040) (by decide);have:=Int.fmod_nonneg_of_pos a (b:=5040) (by decide);lia
noncomputable def Cd(ws:List Value):Prop:=∃ a b c,ws=[.int 0 a,.int 0 b,.int 0 c]
theorem LL(h:Cd ws):ao Γ imm ρ ws (tI [0,0,0]):=by
 obtain⟨a,b,c,rfl⟩:=h;have z:∀ t,VR Γ imm ρ (.int 0 t) (I ((0:Nat):Int)):=fun t=>.int (bV _).symm;exact .cons (z a) (.cons (z b) (.cons (z c) .nil))
theorem N5{w:World}{ε0:Ev}(hw:ε0.P=w.params)(he:ε0.Ok){ys ws zs:List Value}{s:Shared}{Q:Flow→Shared→Prop}{E:Value→Shared→Prop}
  (C:bp (ab w mg mb ε0) c A 300) (ls:cK c ⟨mQ,ay⟩) (F:Fr c.h₀ c.L s.heap m) (hT:m iA=some (.ref T)) (hD:m iu=some (.ref D)) (oT:s.heap.get? T=some (listOf (ys++ws).toArray n)∧T≠c.L∧c.h₀.get? T=none) (hz:Cd ws) (h1:vq ys l1) (k1:l1.length≤3)
  (nD:c.h₀.get? D=none) (pl:s.heap.PlainList D zs.toArray) (hne:D≠c.L) (hTD:T≠D) (h2:vq zs l2) (k2:l2.length≤12) (k:∀ h' tk m',Fr c.h₀ c.L h' m'→Q (.ret (.bool true)) {s with heap:=h',toks:=tk}):wpAny (model iK w) A (execs qm c.env) Q E s:=by
 apply bx pl;intro n2 e2;have ln:(j4 l2).length≤12:=by unfold j4;rw[List.length_map];exact k2
 obtain⟨t0,t1,t2,r,hr,hT3,b0,b1,b2⟩ : ∃ t0 t1 t2 r,r.length≤3∧j4 l1++[0,0,0]=t0::t1::t2::r∧t0<5040∧t1<5040∧t2<5040:=by
  have b:=I9 l1;have hl:(j4 l1).length≤3:=by unfold j4;rw[List.length_map];exact k1
  generalize j4 l1=x at *
  match x,b,hl with
  |[],_,_=>exact⟨0,0,0,[],by decide,rfl,by decide,by decide,by decide⟩
  |[a],b,_=>exact⟨a,0,0,[0],by decide,rfl,b a (.head _),by decide,by decide⟩
  |[a,a2],b,_=>exact⟨a,a2,0,[0,0],by decide,rfl,b a (.head _),b a2 (.tail _ (.head _)),by decide⟩
  |a::a2::a3::x,b,hl=>exact⟨a,a2,a3,x++[0,0,0],by rw[ax];simp only [bb,List.length_nil] at hl ⊢;lia,rfl,b a (.head _),b a2 (.tail _ (.head _)),b a3 (.tail _ (.tail _ (.head _)))⟩
 have vT:ao (ab w mg mb ε0) [] [D,T] (ys++ws) (tI (t0::t1::t2::r)):=by
  rw[←hT3,show tI (j4 l1++[0,0,0])=tI (j4 l1)++tI [0,0,0] from List.map_append];exact(Cv h1).app (LL hz)
 have R:aj (ab w mg mb ε0) c.h₀ c.L s.heap m mQ [.list (tI (j4 l2)),.list (tI (t0::t1::t2::r))] [] [.list D zs n2,.list T (ys++ws) n]:=by
  refine⟨F,fun q hq=>?_,?_,.cons (.list (Cv h2) (by unfold tI;rw[List.length_map];lia)) (.cons (.list vT (by unfold tI;rw[List.length_map];simp only [bb];lia)) .nil),fun x v hx=>?_⟩
  ·rcases bU hq with rfl|hq
   ·exact⟨e2,hne,nD⟩
   ·rcases cH hq with rfl
    exact oT
  ·show [D,T].Nodup
   exact List.nodup_cons.mpr ⟨fun q=>hTD (cH q).symm,List.nodup_cons.mpr ⟨nofun,List.nodup_nil⟩⟩
  ·replace hx:lk x [(iA,AV.cell 1),(iu,.cell 0)]=some v:=hx
   rw[fE,fE] at hx
   by_cases q:iA=x
   ·rw[if_pos q] at hx
    rw[←q,←osI hx];exact⟨_,hT,.cell rfl⟩
   ·rw[if_neg q] at hx
    by_cases q:iu=x
    ·rw[if_pos q] at hx
     rw[←q,←osI hx];exact⟨_,hD,.cell rfl⟩
    ·rw[if_neg q] at hx;injection hx
 obtain⟨L1,σ1,⟨G⟩⟩:=P4 hw he ln (I9 l2) b0 b1 b2 hr;refine G C ls R fun h2 t2 m2 i2 c2 fl R2 l2 x2 f2=>?_;obtain⟨_,e0,hv⟩:=FR.inv f2;clear f2;subst e0;(obtain e:_=_:=VR.inv hv;subst e);exact k h2 t2 m2 R2.F
theorem zj:ay.lookup iA=some .local∧ay.lookup iu=some .local∧ay.lookup ("__debug__" : Str)=none:=by exact⟨by kernel_rfl,by kernel_rfl,by kernel_rfl⟩
end
section
theorem Q1:hG.body=bS 0::bS 1::qm:=by kernel_rfl
theorem B4:ay=hG.scope.names:=by kernel_rfl
theorem Q0:∀ x v,lk x mQ=some v→hG.scope.names.lookup x=some .local:=fun x v hx=>by
 rw[←B4];replace hx:lk x [(iA,AV.cell 1),(iu,.cell 0)]=some v:=hx;rw[fE,fE] at hx
 by_cases q:iA=x
 ·exact q▸zj.1
 ·rw[if_neg q] at hx
  by_cases q:iu=x
  ·exact q▸zj.2.1
  ·rw[if_neg q] at hx;injection hx
theorem Ki:hG.scope.names.lookup ("__debug__" : Str)=none:=by rw[←B4];exact zj.2.2
theorem O9:iA=Str.ofString "tape":=by kernel_rfl
theorem Ms:iu=Str.ofString "drawn":=by kernel_rfl
theorem RE:Str.ofString "tape"≠Str.ofString "drawn":=by decide +kernel
set_option tactic.hygienic true in
theorem UP:WalkO vw loose (fun _ _=>True) (InK cE) fY.row.toRowW hG [] fun f vs=>PySem.call f vs:=by
 intro w s₀ s₁ mg mb G KX fa o pm cd doc dV kV ho hd hcd hD hmg hg args vals as hpre hlay hrd hwl hlo;refine Ground.open G ?_;intro T B D TE TW;apply rA (bmod_of_top T);intro _ _ M;have TA:=at_of_top T
 try (obtain⟨_,_,he,B0⟩:=based_of_top (d:=hG) T rfl hmg ho hd;have he':cd=_:=he;subst he';clear he)
 clear hmg
 wrow_args hpre hlay hrd hwl hlo
 refine enter_call ?_
 w_top on
 try refine codeAny_mono ?_ (fun _ _ g=>GoodW.toG g)
 have K0:=below_caller (Top.heap T)
 w_call any ho hd hcd hD T F
 generalize hQ:(fun (f:Flow) (s':Shared)=>GoodW fY.row.claim _ _ _ _ _ _)=Q;rw[Q1];generalize hR:bS 1::qm=rest;refine wpAny_execs_cons ?_
 conv in exec (bS 0) _=>arg 1;whnf
 iterate 17 walk1
 repeat walk1
 rename_i hA FA NA D ys hB tkB FB NB nD pD cD hC FC NC kC x1 x2 y1 z1 nm
 have nT:=H7 cD;refine add_lists FC NC y1 ⟨_,(NC _ (.head _)).1,rfl,_,rfl⟩ (fun hE FE NE=>?_) ?_
 rotate_left
 ·have:=nT.h.length
  rw[List.length_map,List.length_take] at this;rw[this,sizeLine_eq];show min 3 _+3≤_;lia
 clear nm z1 y1 x2 kC pD NB FB NA FA FC NC cD nD
 walk1
 subst hR;generalize hR:qm=rest;refine wpAny_execs_cons ?_
 conv in exec (bS 1) _=>arg 1;whnf
 repeat walk1
 rename_i h2 F2 N2
 obtain⟨vs2,e2,i2⟩ : ∃ vs2:List Value,slicePick _ (some 3) (some 15) none=vs2.toArray∧IntsAre vs2 _:=⟨_,(Array.toArray_toList ..).symm,kmk_run (x:=3) (y:=15) ‹IntsAre _ _› (by decide) (by decide)⟩;rw[e2] at N2;have l2:h2.IsList _ vs2.toArray:=⟨_,(N2 _ (.head _)).1,rfl,_,rfl⟩
 repeat walk1
 rename_i D2 ys2 hZ tkZ FZ NZ nD2 lZ pD2 cD2
 subst hR;show wpAny _ _ (execs qm _) _ _ _;refine N5 (ε0:=dz w.params (fun _=>0) fun _=>[]) rfl (bM _ _ _) (c:=⟨s₁.heap,s₁.heap,[],s₁.heap.objs.size,fa,hG.name,hG.scope,.ref _,none⟩) ⟨⟨callerA,K0⟩,KX,topRead_of T,by kernel_rfl,rfl,rfl,(show 1+claimMargin+1+300≤990 by decide),(show 4+3+4*300≤9800 by decide)⟩ ⟨B4,Q0,Ki⟩ FZ ?_ ?_ (NZ _ (.tail _ (.head _))) ⟨_,_,_,rfl⟩ nT ?_ nD2 pD2.1 (pD2.ne_locals FZ) (pD2.2 _ (.tail _ (.head _))) (H7 cD2) ?_ ?_
 ·rw[O9];exact(if_neg RE).trans (if_pos rfl)
 ·rw[Ms];exact if_pos rfl
 ·rw[List.length_take];exact Nat.min_le_left _ _
 ·refine Nat.le_trans (List.length_take_le _ _) ?_
  show min 15 _-3≤12;lia
 ·intro h2 t2 m2 F2
  subst hQ;refine goodW_bool F2 hg (raisesW_false ?_) ?_
  ·wrow_none_raised
  ·wrow_post
end
end
end
end Mine
theorem PySem.Challenge.cw_te0005_01_holds : PySem.Challenge.rw_te0005_01.Holds := by
 exact Mine.head Mine.UP