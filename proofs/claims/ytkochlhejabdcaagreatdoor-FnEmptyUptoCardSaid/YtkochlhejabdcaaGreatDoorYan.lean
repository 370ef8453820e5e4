import Derived.Test.YtkochlhejabdcaaGreatDoorYal
set_option maxRecDepth 100000
set_option maxHeartbeats 8000000
set_option linter.all false
namespace Go.Proofs.YtkochlhejabdcaaGreatDoor
open Go.RowKit TS Tryz
theorem _root_.TS.Up.setCell{p:Pm}{w W:World}(h:Up p w W)(hw:KW p w){x:Addr}(a:w.heap.size≤x.block)(v:Value):Up p w (W.setCell x v):=
 ⟨hw.grown (h.up.setCell a v),h.up.setCell a v⟩
section
variable {len:Nat} {u:U} {q:Pc}
theorem pH(h:u.k=1):aj len u q .type=(cj u.n 18&&decide (u.es.length=0)):=by rw[aj.eq_def];simp[h]
theorem lP(h:u.k=14∨u.k=15∨u.k=16):aj len u q .type=decide (u.es.length=0):=by
 rw[aj.eq_def];rcases h with h|h|h<;>simp[h]
theorem pI(h:u.k=11):aj len u q .type=(cj u.n len&&(!q.v&& !q.t||decide (u.n<q.d))&&decide (u.es.length=0)):=by rw[aj.eq_def];simp[h]
theorem nw(h:u.k=2∨u.k=3):aj len u q .type=(decide (0≤u.n)&&decide (u.es.length=1)&&u.es.all fun e=>aj len e q .type):=by
 rw[aj.eq_def];rcases h with h|h<;>simp[h]
theorem pJ(h:u.k=5):aj len u q .type=(fm u.es&&u.es.all fun e=>aj len e q .type):=by rw[aj.eq_def];simp[h]
theorem pK(h:u.k=10):aj len u q .type=fo len u q:=by rw[aj.eq_def];simp[h,fo]
theorem lQ(h:u.k=4∨u.k=6∨u.k=9):aj len u q .type=(cj u.n 3&&decide (u.es.length=1)&&u.es.all fun e=>aj len e q.behind .type):=by
 rw[aj.eq_def];rcases h with h|h|h<;>simp[h]
theorem pL(h:u.k=8):aj len u q .type=(decide (u.es.length=2)&&u.es.all fun e=>aj len e q.behind .type):=by rw[aj.eq_def];simp[h]
theorem pM(h:u.k=7):aj len u q .type=(cj u.m (u.es.length+1)&&(!u.v||decide (0<u.m)&&((u.es.getD (u.m.toNat- 1) cC).k==4))&&u.es.all fun e=>aj len e q.behind .type):=by rw[aj.eq_def];simp[h]
theorem pN(h:¬(u.k=1∨(u.k=14∨u.k=15∨u.k=16)∨u.k=11∨(u.k=2∨u.k=3)∨u.k=5∨u.k=10∨(u.k=4∨u.k=6∨u.k=9)∨u.k=8∨u.k=7)):aj len u q .type=false:=by
 rw[aj.eq_def];simp only[not_or]at h;simp[h]
end
theorem yA(u:U)(s:ByteArray)(a:Option Addr)(c:Nat)(w:World)(B:Nat)(b:Xc w B 4 (.string s)):
 Xk 85 #[Xt u a c,Xp B] w (RB (decide (u.nm.toList=s.toList)) w):=by
 have b1:=zb b;simp only at b1;have d:Hid ((u.nm.toList==s.toList)=decide (u.nm.toList=s.toList)):=by simp only[Hid];rw[Bool.eq_iff_iff];simp
 go_enter func85,ntmps85;go_wp2_with fail
 go_ret;exact⟨_,rfl,d,(Below.refl w.heap.size w).alloc zl _⟩
theorem yC(p:Pm)(D:Dl)(dc:Nat)(u:U)(q:Pc)(a:Option Addr)(c:Nat)(w:World)(h:u.k=1)(hw:KW p w):
 Xk 41 #[Xd D dc,Xt u a c,Xq q] w (RB (aj D.len u q .type) w):=by
 have j:=ee h;obtain⟨x,d⟩:∃x,x=cj u.n 18:=⟨_,rfl⟩
 have e:=fun W=>gH (jW u.n 18 W) d.symm;have ae:Up p w ((w.alloc (Xt u a c)).alloc (Xq q)):=((Up.refl hw).alloc _).alloc _;have hT:=zh (pH (len:=D.len) (q:=q) h);clear h;by_cases b:u.es.length=0
 ·have f:((u.es.length:Int)==0)=true:=by simp[b]
  have hF:Hid (x=aj D.len u q .type):=by rw[hT.out];simp[Hid,b,d]
  clear hT b d;cases x
  all_goals
   go_enter func41,ntmps41;go_wp2_with fail
   refine(e _).mono ?_;rintro g i ⟨rfl,rfl⟩;go_wp2_with fail
   go_ret;exact⟨_,rfl,hF,ae.up⟩
 ·have f:((u.es.length:Int)==0)=false:=by simp;intro h;simp[h]at b
  have hF:Hid (false=aj D.len u q .type):=by rw[hT.out];simp[Hid,b]
  clear hT b d;cases x
  all_goals
   go_enter func41,ntmps41;go_wp2_with fail
   refine(e _).mono ?_;rintro g i ⟨rfl,rfl⟩;go_wp2_with fail
   go_ret;exact⟨_,rfl,hF,ae.up⟩
theorem yD(p:Pm)(D:Dl)(dc:Nat)(u:U)(q:Pc)(a:Option Addr)(c:Nat)(w:World)(h:u.k=14)(hw:KW p w):
 Xk 41 #[Xd D dc,Xt u a c,Xq q] w (RB (aj D.len u q .type) w):=by
 have t1:(u.k==1)=false:=aE zo;have t14:(u.k==14)=true:=ee h;have ae:Up p w ((w.alloc (Xt u a c)).alloc (Xq q)):=((Up.refl hw).alloc _).alloc _;have hT:Hid (((u.es.length:Int)==0)=aj D.len u q .type):=by rw[lP zo];simp only[Hid];rw[Bool.eq_iff_iff];simp
 clear h;go_enter func41,ntmps41;go_wp2_with fail
 go_ret;exact⟨_,rfl,hT,ae.up⟩
theorem yE(p:Pm)(D:Dl)(dc:Nat)(u:U)(q:Pc)(a:Option Addr)(c:Nat)(w:World)(h:u.k=15)(hw:KW p w):
 Xk 41 #[Xd D dc,Xt u a c,Xq q] w (RB (aj D.len u q .type) w):=by
 have t1:(u.k==1)=false:=aE zo;have t14:(u.k==14)=false:=aE zo;have t15:(u.k==15)=true:=ee h;have ae:Up p w ((w.alloc (Xt u a c)).alloc (Xq q)):=((Up.refl hw).alloc _).alloc _;have hT:Hid (((u.es.length:Int)==0)=aj D.len u q .type):=by rw[lP zo];simp only[Hid];rw[Bool.eq_iff_iff];simp
 clear h;go_enter func41,ntmps41;go_wp2_with fail
 go_ret;exact⟨_,rfl,hT,ae.up⟩
theorem yF(p:Pm)(D:Dl)(dc:Nat)(u:U)(q:Pc)(a:Option Addr)(c:Nat)(w:World)(h:u.k=16)(hw:KW p w):
 Xk 41 #[Xd D dc,Xt u a c,Xq q] w (RB (aj D.len u q .type) w):=by
 have t1:(u.k==1)=false:=aE zo;have t14:(u.k==14)=false:=aE zo;have t15:(u.k==15)=false:=aE zo;have t16:(u.k==16)=true:=ee h;have ae:Up p w ((w.alloc (Xt u a c)).alloc (Xq q)):=((Up.refl hw).alloc _).alloc _;have hT:Hid (((u.es.length:Int)==0)=aj D.len u q .type):=by rw[lP zo];simp only[Hid];rw[Bool.eq_iff_iff];simp
 clear h;go_enter func41,ntmps41;go_wp2_with fail
 go_ret;exact⟨_,rfl,hT,ae.up⟩
theorem yG(p:Pm)(D:Dl)(dc:Nat)(u:U)(q:Pc)(a:Option Addr)(c:Nat)(w:World)(h:u.k=10)(e:∀f,f.sz<u.sz→dg p D dc f)(hu:ai p D u a c)(hw:KW p w):
 Xk 41 #[Xd D dc,Xt u a c,Xq q] w (RB (aj D.len u q .type) w):=by
 have t1:(u.k==1)=false:=aE zo;have t14:(u.k==14)=false:=aE zo;have t15:(u.k==15)=false:=aE zo;have t16:(u.k==16)=false:=aE zo;have t11:(u.k==11)=false:=aE zo;have t2:(u.k==2)=false:=aE zo;have t3:(u.k==3)=false:=aE zo;have t5:(u.k==5)=false:=aE zo;have t10:(u.k==10)=true:=ee h;have ae:Up p w ((w.alloc (Xt u a c)).alloc (Xq q)):=((Up.refl hw).alloc _).alloc _;have hT:=zh (pK (len:=D.len) (q:=q) h);have g:=fun W (i:KW p W)=>yz p D dc u q a c W e hu i;clear h e;rw[hT.out];go_enter func41,ntmps41;go_wp2_with fail
 refine(g _ ae.kw).mono ?_;rintro l m ⟨b,rfl,j,aa⟩;have d:=ae.up.trans (aa.mono ae.up.size);clear g;go_wp2_with fail
 go_ret;exact⟨_,rfl,j,d⟩
theorem yH(p:Pm)(D:Dl)(dc:Nat)(u:U)(q:Pc)(a:Option Addr)(c:Nat)(w:World)(h:¬(u.k=1∨(u.k=14∨u.k=15∨u.k=16)∨u.k=11∨(u.k=2∨u.k=3)∨u.k=5∨u.k=10∨(u.k=4∨u.k=6∨u.k=9)∨u.k=8∨u.k=7))(hw:KW p w):
 Xk 41 #[Xd D dc,Xt u a c,Xq q] w (RB (aj D.len u q .type) w):=by
 have t1:(u.k==1)=false:=aE zo;have t14:(u.k==14)=false:=aE zo;have t15:(u.k==15)=false:=aE zo;have t16:(u.k==16)=false:=aE zo;have t11:(u.k==11)=false:=aE zo;have t2:(u.k==2)=false:=aE zo;have t3:(u.k==3)=false:=aE zo;have t5:(u.k==5)=false:=aE zo;have t10:(u.k==10)=false:=aE zo;have t4:(u.k==4)=false:=aE zo;have t6:(u.k==6)=false:=aE zo;have t9:(u.k==9)=false:=aE zo;have t8:(u.k==8)=false:=aE zo;have t7:(u.k==7)=false:=aE zo;have ae:Up p w ((w.alloc (Xt u a c)).alloc (.cells #[.int .i64 q.d,.bool false,.bool q.t] 57)):=((Up.refl hw).alloc _).alloc _;have hT:=zh (pN (len:=D.len) (q:=q) h);clear h;go_enter func41,ntmps41;go_wp2_with fail
 go_ret;exact⟨_,rfl,hT.out.symm,ae.up⟩
theorem yI(p:Pm)(D:Dl)(dc:Nat)(u:U)(q:Pc)(a:Option Addr)(c:Nat)(w:World)(h:u.k=11)(hw:KW p w):
 Xk 41 #[Xd D dc,Xt u a c,Xq q] w (RB (aj D.len u q .type) w):=by
 have t1:(u.k==1)=false:=aE zo;have t14:(u.k==14)=false:=aE zo;have t15:(u.k==15)=false:=aE zo;have t16:(u.k==16)=false:=aE zo;have t11:(u.k==11)=true:=ee h;have ae:Up p w ((w.alloc (Xt u a c)).alloc (Xq q)):=((Up.refl hw).alloc _).alloc _;have hT:=zh (pI (len:=D.len) (q:=q) h);clear h;obtain⟨x,g⟩:∃x,x=cj u.n D.len:=⟨_,rfl⟩
 have b:=fun W=>gH (jW u.n D.len W) g.symm;obtain⟨y,f⟩:∃y,y=decide (u.n<q.d):=⟨_,rfl⟩
 obtain⟨z,i⟩:∃z,z=((u.es.length:Int)==0):=⟨_,rfl⟩
 have e:decide (u.es.length=0)=z:=by rw[i,Bool.eq_iff_iff];simp
 obtain⟨r,j,l⟩:=q;have hF:Hid ((x&&(!j&& !l||y)&&z)=aj D.len u ⟨r,j,l⟩ .type):=by rw[hT.out,e,←g,←f];simp[Hid]
 simp only at ae f b;have s:=f.symm;have t:=i.symm;clear hT e f i g;cases x
 ·go_enter func41,ntmps41
  go_wp2_with fail
  refine(b _).mono ?_;rintro m o ⟨rfl,rfl⟩;clear b;cases z
  all_goals
   go_wp2_with fail
   go_ret;exact⟨_,rfl,hF,ae.up⟩
 ·cases j
  ·cases l
   ·go_enter func41,ntmps41
    go_wp2_with fail
    refine(b _).mono ?_;rintro m o ⟨rfl,rfl⟩;clear b;cases z
    all_goals
     go_wp2_with fail
     go_ret;exact⟨_,rfl,hF,ae.up⟩
   ·go_enter func41,ntmps41
    go_wp2_with fail
    refine(b _).mono ?_;rintro m o ⟨rfl,rfl⟩;clear b;cases y
    all_goals
     cases z
     all_goals
      go_wp2_with fail
      go_ret;exact⟨_,rfl,hF,ae.up⟩
  ·go_enter func41,ntmps41
   go_wp2_with fail
   refine(b _).mono ?_;rintro m o ⟨rfl,rfl⟩;clear b;cases y
   all_goals
    cases z
    all_goals
     go_wp2_with fail
     go_ret;exact⟨_,rfl,hF,ae.up⟩
theorem yJ(p:Pm)(D:Dl)(dc:Nat)(u:U)(q:Pc)(a:Option Addr)(c:Nat)(w:World)(h:u.k=2)(j:∀e∈u.es,dg p D dc e)(hu:ai p D u a c)(hw:KW p w):
 Xk 41 #[Xd D dc,Xt u a c,Xq q] w (RB (aj D.len u q .type) w):=by
 have t1:(u.k==1)=false:=aE zo;have t14:(u.k==14)=false:=aE zo;have t15:(u.k==15)=false:=aE zo;have t16:(u.k==16)=false:=aE zo;have t11:(u.k==11)=false:=aE zo;have t2:(u.k==2)=true:=ee h;have l:=hu.cap;have ae:Up p w ((w.alloc (Xt u a c)).alloc (Xq q)):=((Up.refl hw).alloc _).alloc _;have hT:=zh (nw (len:=D.len) (q:=q) (u:=u) zo);clear h;have f:=fun W (m:KW p W)=>jl p D dc u.es q a c W j hu.list zo m;clear j;by_cases g:0≤u.n
 ·have o:decide ((0:Int)≤u.n)=true:=by simp[g]
  by_cases d:u.es.length=1
  ·have r:((u.es.length:Int)==1)=true:=by simp[d]
   have hF:Hid ((u.es.all fun e=>aj D.len e q .type)=aj D.len u q .type):=by rw[hT.out];simp[Hid,d,g]
   rw[←hF.out];clear hT d hF;go_enter func41,ntmps41;go_wp2_with fail
   refine(f _ ae.kw).mono ?_;rintro t v ⟨b,rfl,s,aa⟩;have i:=ae.up.trans (aa.mono ae.up.size);clear f;go_wp2_with fail
   go_ret;exact⟨_,rfl,s,i⟩
  ·have r:((u.es.length:Int)==1)=false:=zp
   have hF:Hid (false=aj D.len u q .type):=by rw[hT.out];simp[Hid,d]
   clear hT d f;go_enter func41,ntmps41;go_wp2_with fail
   go_ret;exact⟨_,rfl,hF,ae.up⟩
 ·have o:decide ((0:Int)≤u.n)=false:=zp
  have hF:Hid (false=aj D.len u q .type):=by rw[hT.out];simp[Hid,g]
  clear hT f;go_enter func41,ntmps41;go_wp2_with fail
  go_ret;exact⟨_,rfl,hF,ae.up⟩
theorem yK(p:Pm)(D:Dl)(dc:Nat)(u:U)(q:Pc)(a:Option Addr)(c:Nat)(w:World)(h:u.k=3)(j:∀e∈u.es,dg p D dc e)(hu:ai p D u a c)(hw:KW p w):
 Xk 41 #[Xd D dc,Xt u a c,Xq q] w (RB (aj D.len u q .type) w):=by
 have t1:(u.k==1)=false:=aE zo;have t14:(u.k==14)=false:=aE zo;have t15:(u.k==15)=false:=aE zo;have t16:(u.k==16)=false:=aE zo;have t11:(u.k==11)=false:=aE zo;have t2:(u.k==2)=false:=aE zo;have t3:(u.k==3)=true:=ee h;have l:=hu.cap;have ae:Up p w ((w.alloc (Xt u a c)).alloc (Xq q)):=((Up.refl hw).alloc _).alloc _;have hT:=zh (nw (len:=D.len) (q:=q) (u:=u) zo);clear h;have f:=fun W (m:KW p W)=>jl p D dc u.es q a c W j hu.list zo m;clear j;by_cases g:0≤u.n
 ·have o:decide ((0:Int)≤u.n)=true:=by simp[g]
  by_cases d:u.es.length=1
  ·have r:((u.es.length:Int)==1)=true:=by simp[d]
   have hF:Hid ((u.es.all fun e=>aj D.len e q .type)=aj D.len u q .type):=by rw[hT.out];simp[Hid,d,g]
   rw[←hF.out];clear hT d hF;go_enter func41,ntmps41;go_wp2_with fail
   refine(f _ ae.kw).mono ?_;rintro t v ⟨b,rfl,s,aa⟩;have i:=ae.up.trans (aa.mono ae.up.size);clear f;go_wp2_with fail
   go_ret;exact⟨_,rfl,s,i⟩
  ·have r:((u.es.length:Int)==1)=false:=zp
   have hF:Hid (false=aj D.len u q .type):=by rw[hT.out];simp[Hid,d]
   clear hT d f;go_enter func41,ntmps41;go_wp2_with fail
   go_ret;exact⟨_,rfl,hF,ae.up⟩
 ·have o:decide ((0:Int)≤u.n)=false:=zp
  have hF:Hid (false=aj D.len u q .type):=by rw[hT.out];simp[Hid,g]
  clear hT f;go_enter func41,ntmps41;go_wp2_with fail
  go_ret;exact⟨_,rfl,hF,ae.up⟩
theorem yL(p:Pm)(D:Dl)(dc:Nat)(u:U)(q:Pc)(a:Option Addr)(c:Nat)(w:World)(h:u.k=4)(r:∀e∈u.es,dg p D dc e)(hu:ai p D u a c)(hw:KW p w):
 Xk 41 #[Xd D dc,Xt u a c,Xq q] w (RB (aj D.len u q .type) w):=by
 have t1:(u.k==1)=false:=aE zo;have t14:(u.k==14)=false:=aE zo;have t15:(u.k==15)=false:=aE zo;have t16:(u.k==16)=false:=aE zo;have t11:(u.k==11)=false:=aE zo;have t2:(u.k==2)=false:=aE zo;have t3:(u.k==3)=false:=aE zo;have t5:(u.k==5)=false:=aE zo;have t10:(u.k==10)=false:=aE zo;have t4:(u.k==4)=true:=ee h;have s:=hu.cap;have ae:Up p w ((w.alloc (Xt u a c)).alloc (.cells #[.int .i64 q.d,.bool false,.bool q.t] 57)):=((Up.refl hw).alloc _).alloc _;have hT:=zh (lQ (len:=D.len) (q:=q) (u:=u) zo);clear h;obtain⟨x,f⟩:∃x,x=cj u.n 3:=⟨_,rfl⟩
 have g:=fun W=>gH (jW u.n 3 W) f.symm;have j:∀W,KW p W→Xk 84 #[Xd D dc,.slice a u.es.length c,.agg #[.int .i64 q.d,.bool false,.bool q.t]] W (RB (u.es.all fun e=>aj D.len e q.behind .type) W):=fun W v=>jl p D dc u.es q.behind a c W r hu.list zo v;clear r;cases x
 ·have hF:Hid (false=aj D.len u q .type):=by rw[hT.out,←f];simp[Hid]
  clear hT j f;go_enter func41,ntmps41;go_wp2_with fail
  refine(g _).mono ?_;rintro l m ⟨rfl,rfl⟩;clear g;go_wp2_with fail
  go_ret;exact⟨_,rfl,hF,ae.up⟩
 ·by_cases i:u.es.length=1
  ·have y:((u.es.length:Int)==1)=true:=by simp[i]
   have hF:Hid ((u.es.all fun e=>aj D.len e q.behind .type)=aj D.len u q .type):=by rw[hT.out];simp[Hid,i,←f]
   rw[←hF.out];clear hT i hF f;go_enter func41,ntmps41;go_wp2_with fail
   refine(g _).mono ?_;rintro l m ⟨rfl,rfl⟩;clear g;go_wp2_with fail
   refine(j _ ae.kw).mono ?_;rintro l m ⟨b,rfl,z,aa⟩;have o:=ae.up.trans (aa.mono ae.up.size);clear j;go_wp2_with fail
   go_ret;exact⟨_,rfl,z,o⟩
  ·have y:((u.es.length:Int)==1)=false:=zp
   have hF:Hid (false=aj D.len u q .type):=by rw[hT.out];simp[Hid,i]
   clear hT i j f;go_enter func41,ntmps41;go_wp2_with fail
   refine(g _).mono ?_;rintro l m ⟨rfl,rfl⟩;clear g;go_wp2_with fail
   go_ret;exact⟨_,rfl,hF,ae.up⟩
theorem yM(p:Pm)(D:Dl)(dc:Nat)(u:U)(q:Pc)(a:Option Addr)(c:Nat)(w:World)(h:u.k=6)(r:∀e∈u.es,dg p D dc e)(hu:ai p D u a c)(hw:KW p w):
 Xk 41 #[Xd D dc,Xt u a c,Xq q] w (RB (aj D.len u q .type) w):=by
 have t1:(u.k==1)=false:=aE zo;have t14:(u.k==14)=false:=aE zo;have t15:(u.k==15)=false:=aE zo;have t16:(u.k==16)=false:=aE zo;have t11:(u.k==11)=false:=aE zo;have t2:(u.k==2)=false:=aE zo;have t3:(u.k==3)=false:=aE zo;have t5:(u.k==5)=false:=aE zo;have t10:(u.k==10)=false:=aE zo;have t4:(u.k==4)=false:=aE zo;have t6:(u.k==6)=true:=ee h;have s:=hu.cap;have ae:Up p w ((w.alloc (Xt u a c)).alloc (.cells #[.int .i64 q.d,.bool false,.bool q.t] 57)):=((Up.refl hw).alloc _).alloc _;have hT:=zh (lQ (len:=D.len) (q:=q) (u:=u) zo);clear h;obtain⟨x,f⟩:∃x,x=cj u.n 3:=⟨_,rfl⟩
 have g:=fun W=>gH (jW u.n 3 W) f.symm;have j:∀W,KW p W→Xk 84 #[Xd D dc,.slice a u.es.length c,.agg #[.int .i64 q.d,.bool false,.bool q.t]] W (RB (u.es.all fun e=>aj D.len e q.behind .type) W):=fun W v=>jl p D dc u.es q.behind a c W r hu.list zo v;clear r;cases x
 ·have hF:Hid (false=aj D.len u q .type):=by rw[hT.out,←f];simp[Hid]
  clear hT j f;go_enter func41,ntmps41;go_wp2_with fail
  refine(g _).mono ?_;rintro l m ⟨rfl,rfl⟩;clear g;go_wp2_with fail
  go_ret;exact⟨_,rfl,hF,ae.up⟩
 ·by_cases i:u.es.length=1
  ·have y:((u.es.length:Int)==1)=true:=by simp[i]
   have hF:Hid ((u.es.all fun e=>aj D.len e q.behind .type)=aj D.len u q .type):=by rw[hT.out];simp[Hid,i,←f]
   rw[←hF.out];clear hT i hF f;go_enter func41,ntmps41;go_wp2_with fail
   refine(g _).mono ?_;rintro l m ⟨rfl,rfl⟩;clear g;go_wp2_with fail
   refine(j _ ae.kw).mono ?_;rintro l m ⟨b,rfl,z,aa⟩;have o:=ae.up.trans (aa.mono ae.up.size);clear j;go_wp2_with fail
   go_ret;exact⟨_,rfl,z,o⟩
  ·have y:((u.es.length:Int)==1)=false:=zp
   have hF:Hid (false=aj D.len u q .type):=by rw[hT.out];simp[Hid,i]
   clear hT i j f;go_enter func41,ntmps41;go_wp2_with fail
   refine(g _).mono ?_;rintro l m ⟨rfl,rfl⟩;clear g;go_wp2_with fail
   go_ret;exact⟨_,rfl,hF,ae.up⟩
theorem yN(p:Pm)(D:Dl)(dc:Nat)(u:U)(q:Pc)(a:Option Addr)(c:Nat)(w:World)(h:u.k=9)(r:∀e∈u.es,dg p D dc e)(hu:ai p D u a c)(hw:KW p w):
 Xk 41 #[Xd D dc,Xt u a c,Xq q] w (RB (aj D.len u q .type) w):=by
 have t1:(u.k==1)=false:=aE zo;have t14:(u.k==14)=false:=aE zo;have t15:(u.k==15)=false:=aE zo;have t16:(u.k==16)=false:=aE zo;have t11:(u.k==11)=false:=aE zo;have t2:(u.k==2)=false:=aE zo;have t3:(u.k==3)=false:=aE zo;have t5:(u.k==5)=false:=aE zo;have t10:(u.k==10)=false:=aE zo;have t4:(u.k==4)=false:=aE zo;have t6:(u.k==6)=false:=aE zo;have t9:(u.k==9)=true:=ee h;have s:=hu.cap;have ae:Up p w ((w.alloc (Xt u a c)).alloc (.cells #[.int .i64 q.d,.bool false,.bool q.t] 57)):=((Up.refl hw).alloc _).alloc _;have hT:=zh (lQ (len:=D.len) (q:=q) (u:=u) zo);clear h;obtain⟨x,f⟩:∃x,x=cj u.n 3:=⟨_,rfl⟩
 have g:=fun W=>gH (jW u.n 3 W) f.symm;have j:∀W,KW p W→Xk 84 #[Xd D dc,.slice a u.es.length c,.agg #[.int .i64 q.d,.bool false,.bool q.t]] W (RB (u.es.all fun e=>aj D.len e q.behind .type) W):=fun W v=>jl p D dc u.es q.behind a c W r hu.list zo v;clear r;cases x
 ·have hF:Hid (false=aj D.len u q .type):=by rw[hT.out,←f];simp[Hid]
  clear hT j f;go_enter func41,ntmps41;go_wp2_with fail
  refine(g _).mono ?_;rintro l m ⟨rfl,rfl⟩;clear g;go_wp2_with fail
  go_ret;exact⟨_,rfl,hF,ae.up⟩
 ·by_cases i:u.es.length=1
  ·have y:((u.es.length:Int)==1)=true:=by simp[i]
   have hF:Hid ((u.es.all fun e=>aj D.len e q.behind .type)=aj D.len u q .type):=by rw[hT.out];simp[Hid,i,←f]
   rw[←hF.out];clear hT i hF f;go_enter func41,ntmps41;go_wp2_with fail
   refine(g _).mono ?_;rintro l m ⟨rfl,rfl⟩;clear g;go_wp2_with fail
   refine(j _ ae.kw).mono ?_;rintro l m ⟨b,rfl,z,aa⟩;have o:=ae.up.trans (aa.mono ae.up.size);clear j;go_wp2_with fail
   go_ret;exact⟨_,rfl,z,o⟩
  ·have y:((u.es.length:Int)==1)=false:=zp
   have hF:Hid (false=aj D.len u q .type):=by rw[hT.out];simp[Hid,i]
   clear hT i j f;go_enter func41,ntmps41;go_wp2_with fail
   refine(g _).mono ?_;rintro l m ⟨rfl,rfl⟩;clear g;go_wp2_with fail
   go_ret;exact⟨_,rfl,hF,ae.up⟩
theorem yO(p:Pm)(D:Dl)(dc:Nat)(u:U)(q:Pc)(a:Option Addr)(c:Nat)(w:World)(h:u.k=8)(j:∀e∈u.es,dg p D dc e)(hu:ai p D u a c)(hw:KW p w):
 Xk 41 #[Xd D dc,Xt u a c,Xq q] w (RB (aj D.len u q .type) w):=by
 have t1:(u.k==1)=false:=aE zo;have t14:(u.k==14)=false:=aE zo;have t15:(u.k==15)=false:=aE zo;have t16:(u.k==16)=false:=aE zo;have t11:(u.k==11)=false:=aE zo;have t2:(u.k==2)=false:=aE zo;have t3:(u.k==3)=false:=aE zo;have t5:(u.k==5)=false:=aE zo;have t10:(u.k==10)=false:=aE zo;have t4:(u.k==4)=false:=aE zo;have t6:(u.k==6)=false:=aE zo;have t9:(u.k==9)=false:=aE zo;have t8:(u.k==8)=true:=ee h;have l:=hu.cap;have ae:Up p w ((w.alloc (Xt u a c)).alloc (.cells #[.int .i64 q.d,.bool false,.bool q.t] 57)):=((Up.refl hw).alloc _).alloc _;have hT:=zh (pL (len:=D.len) (q:=q) (u:=u) zo);clear h;have g:∀W,KW p W→Xk 84 #[Xd D dc,.slice a u.es.length c,.agg #[.int .i64 q.d,.bool false,.bool q.t]] W (RB (u.es.all fun e=>aj D.len e q.behind .type) W):=fun W m=>jl p D dc u.es q.behind a c W j hu.list zo m;clear j;by_cases f:u.es.length=2
 ·have n:((u.es.length:Int)==2)=true:=by simp[f]
  have hF:Hid ((u.es.all fun e=>aj D.len e q.behind .type)=aj D.len u q .type):=by rw[hT.out];simp[Hid,f]
  rw[←hF.out];clear hT f hF;go_enter func41,ntmps41;go_wp2_with fail
  refine(g _ ae.kw).mono ?_;rintro r s ⟨b,rfl,o,aa⟩;have i:=ae.up.trans (aa.mono ae.up.size);clear g;go_wp2_with fail
  go_ret;exact⟨_,rfl,o,i⟩
 ·have n:((u.es.length:Int)==2)=false:=zp
  have hF:Hid (false=aj D.len u q .type):=by rw[hT.out];simp[Hid,f]
  clear hT f g;go_enter func41,ntmps41;go_wp2_with fail
  go_ret;exact⟨_,rfl,hF,ae.up⟩
end Go.Proofs.YtkochlhejabdcaaGreatDoor
