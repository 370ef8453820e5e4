import Derived.BigQuiet
import Derived.Deep.QuietTactic
import Derived.StillTailTactics
import Derived.Test.YtkochlhejabdcaaGreatDoorYaf
import Derived.Test.YtkochlhejabdcaaGreatDoorYah
set_option maxRecDepth 100000
set_option maxHeartbeats 8000000
set_option linter.all false
namespace Go.Proofs.YtkochlhejabdcaaGreatDoor
open Go.RowKit TS Tryz
theorem aE{a b:Int}(h:a≠b):(a==b)=false:=by simp[h]
theorem ee{a b:Int}(h:a=b):(a==b)=true:=by simp[h]
theorem pw(a b c d e f g:Value)(w:World):(Instr.field 25 (.agg #[a,b,c,d,e,f,g]) 0).run Tryz.prog w= .ok a w:=zk
theorem fM(p:Pm)(D:Dl)(dc:Nat)(u:U)(pos f:Nat)(a:Option Addr)(c:Nat)(w:World)(s:Pl D.len u pos f)(A:f≤2)(g:f≠0)(h:u.k≠12)(i:u.k≠13)(hu:ai p D u a c)(hw:KW p w):
 Xk 22 #[Xd D dc,Xt u a c] w (RB (isIface u) w):=by
 have j:=fun W hk=>f_ p D dc u pos f a c W s A g h i hu hk;by_cases b:(under u).k=10
 ·have l:Hid (true=isIface u):=by simp[Hid,isIface,b]
  have bC:=ee b;clear b h i g s;generalize under u=v at*;go_enter func22,ntmps22;go_wp2_with fail
  refine(j _ (hw.alloc _)).mono ?_;rintro x m ⟨q,y,c1,rfl,z,n,o,aa⟩;clear j;have r:=pw;go_wp2_with fail
  go_ret;have e:Below w w m:=Below.trans ((Below.refl w.heap.size w).alloc zl _) (aa.mono zs);exact⟨_,rfl,l,e⟩
 ·by_cases d:(under u).k=16
  ·have l:Hid (true=isIface u):=by simp[Hid,isIface,d]
   have bC:=aE b;have t:=ee d;clear b h i g s d;generalize under u=v at*;go_enter func22,ntmps22;go_wp2_with fail
   refine(j _ (hw.alloc _)).mono ?_;rintro x m ⟨q,y,c1,rfl,z,n,o,aa⟩;clear j;have r:=pw;go_wp2_with fail
   go_ret;have e:Below w w m:=Below.trans ((Below.refl w.heap.size w).alloc zl _) (aa.mono zs);exact⟨_,rfl,l,e⟩
  ·have l:Hid (false=isIface u):=by simp[Hid,isIface,d,b]
   have bC:=aE b;have t:=aE d;clear b h i g s d;generalize under u=v at*;go_enter func22,ntmps22;go_wp2_with fail
   refine(j _ (hw.alloc _)).mono ?_;rintro x m ⟨q,y,c1,rfl,z,n,o,aa⟩;clear j;have r:=pw;go_wp2_with fail
   go_ret;have e:Below w w m:=Below.trans ((Below.refl w.heap.size w).alloc zl _) (aa.mono zs);exact⟨_,rfl,l,e⟩
theorem jW(n m:Int)(w:World):Xk 83 #[.int .i64 n,.int .i64 m] w (RQ (decide (0≤n)&&decide (n<m)) w):=by
 obtain⟨r,hr⟩:∃r,r=(decide (0≤n)&&decide (n<m)):=⟨_,rfl⟩
 rw[←hr];by_cases b:0≤n
 ·by_cases h1:n<m
  ·have a:Hid (true=r):=by simp[Hid,b,h1,hr]
   clear hr;go_enter func83,ntmps83;go_wp2_with fail
   go_ret;exact⟨_,rfl,a,rfl⟩
  ·have a:Hid (false=r):=by simp[Hid,b,hr];omega
   have c:m≤n:=zo;clear hr;go_enter func83,ntmps83;go_wp2_with fail
   go_ret;exact⟨_,rfl,a,rfl⟩
 ·have a:Hid (false=r):=by simp[Hid,hr];omega
  have d:n<0:=zo;clear hr;go_enter func83,ntmps83;go_wp2_with fail
  go_ret;exact⟨_,rfl,a,rfl⟩
def gU(i:Nat)(c:UInt8):Bool:=lL c||(97≤c&&c≤122&&i !=0)
theorem nu(s:ByteArray):aR s=true↔(∀j(h:j<s.size),gU j s[j]=true)∧1≤s.size∧s.size≤8:=by
 obtain⟨⟨l⟩⟩:=s;show kK l=true↔(∀j(h:j<l.length),gU j l[j]=true)∧1≤l.length∧l.length≤8;cases l with
 |nil=>simp[kK]
 |cons c r=>
  simp only[kK,Bool.and_eq_true,decide_eq_true_eq,List.all_eq_true,List.length_cons];constructor
  ·rintro⟨⟨h1,a⟩,b⟩
   refine⟨fun j h=> ?_,by omega,by omega⟩;cases j with
   |zero=>simp[gU,h1]
   |succ j=>
    have:=a _ (zm (by simpa using h:j<r.length));simp only[pr,List.getElem_cons_succ,gU]at this⊢;simpa using this
  ·rintro⟨h1,_,b⟩
   refine⟨⟨?_,?_⟩,by omega⟩
   ·have:=h1 0 zs;simpa [gU]using this
   ·intro x d
    obtain⟨j,e,rfl⟩:=List.getElem_of_mem d;have:=h1 (j+1) (by simpa using e);simp only[pr,List.getElem_cons_succ,gU]at this⊢;simpa using this
theorem ss(i:Nat)(c:UInt8):gU i c=true↔((65:Int)≤(c.toNat:Int)∧(c.toNat:Int)≤90)∨((97:Int)≤(c.toNat:Int)∧(c.toNat:Int)≤122∧i≠0):=by
 simp only[gU,lL,Bool.or_eq_true,Bool.and_eq_true,decide_eq_true_eq,UInt8.le_iff_toNat_le,bne_iff_ne];have a:(65:UInt8).toNat=65:=rfl;have b:(90:UInt8).toNat=90:=rfl;have d:(97:UInt8).toNat=97:=rfl;have e:(122:UInt8).toNat=122:=rfl;rw[a,b,d,e];omega
theorem lO(s:ByteArray)(w:World)(A:(s.size:Int)≤1048576):Xk 79 #[.string s] w (RQ (aR s) w):=by
 obtain⟨r,hr⟩:∃r,r=aR s:=⟨_,rfl⟩
 rw[←hr];have d:=zh hr;clear hr;go_enter func79,ntmps79;go_wp2_with fail
 go_loop [7] (fun i=> ∃k:Nat,k≤s.size∧i= .int .i64 k∧∀j(h:j<k)(l:j<s.size),gU j s[j]=true) (fun i=>s.size- (intOf i).toNat)
 case atStart=>exact⟨0,Nat.zero_le _,rfl,fun j h=>by omega⟩
 case round=>
  obtain⟨k,hk,rfl,f⟩:=hrel;by_cases m:k<s.size
  ·have B:=s[k].toNat_lt
   have b:=zh f;clear f;by_cases hO:gU k s[k]=true
   ·have c:Hid (∀j(h:j<k+1)(l:j<s.size),gU j s[j]=true):=fun j h l=>by
     by_cases e:j=k
     ·subst e;exact hO
     ·exact b.out j zo l
    rw[ss]at hO;rcases hO with⟨h1,u⟩|⟨h1,u,x⟩
    ·have v:¬(s[k].toNat:Int)<65:=zo
     have n:¬90<(s[k].toNat:Int):=zo;have o:(s[k].toNat:Int)<97:=zo;go_wp2_with fail
     go_round
     case rel=>exact⟨k+1,by omega,by go_num,c.out⟩
     case measure=>simp[intOf];omega
    ·have v:¬(s[k].toNat:Int)<65:=zo
     have n:90<(s[k].toNat:Int):=zo;have o:((k:Int)==0)=false:=zp;go_wp2_with fail
     go_round
     case rel=>exact⟨k+1,by omega,by go_num,c.out⟩
     case measure=>simp[intOf];omega
   ·have hF:Hid (false=r):=by
     unfold Hid;cases a:r
     ·rfl
     ·rw[d.out,nu]at a
      exact absurd (a.1 k m) hO
    rw[ss]at hO;by_cases h1:(s[k].toNat:Int)<65
    ·have o:(s[k].toNat:Int)<97:=zo
     go_wp2_with fail
     go_ret;exact⟨_,rfl,hF,rfl⟩
    ·have u:90<(s[k].toNat:Int):=zo
     by_cases x:(s[k].toNat:Int)<97
     ·clear hO
      go_wp2_with fail
      go_ret;exact⟨_,rfl,hF,rfl⟩
     ·by_cases v:(s[k].toNat:Int)≤122
      ·have n:k=0:=zo
       have o:((k:Int)==0)=true:=zp;clear hO n;have p:(97:Int)≤s[k].toNat:=zo;go_wp2_with fail
       go_ret;exact⟨_,rfl,hF,rfl⟩
      ·have p:(97:Int)≤s[k].toNat:=zo
       have y:(122:Int)<s[k].toNat:=zo;clear hO;go_wp2_with fail
       go_ret;exact⟨_,rfl,hF,rfl⟩
  ·have g:k=s.size:=zo
   have b:=zh f;clear f;by_cases h1:1≤s.size
   ·have q:(1:Int)≤s.size:=zo
    by_cases z:s.size≤8
    ·have t:(s.size:Int)≤8:=zo
     have hT:Hid (true=r):=by
      unfold Hid;rw[d.out];symm;rw[nu];exact⟨fun j h=>b.out j zo h,h1,z⟩
     clear g;go_wp2_with fail
     go_ret;exact⟨_,rfl,hT,rfl⟩
    ·have t:¬(s.size:Int)≤8:=zo
     have hT:Hid (false=r):=by
      unfold Hid;cases a:r
      ·rfl
      ·rw[d.out,nu]at a;omega
     clear g;go_wp2_with fail
     go_ret;exact⟨_,rfl,hT,rfl⟩
   ·have q:(s.size:Int)<1:=zo
    have hT:Hid (false=r):=by
     unfold Hid;cases a:r
     ·rfl
     ·rw[d.out,nu]at a;omega
    clear g;go_wp2_with fail
    go_ret;exact⟨_,rfl,hT,rfl⟩
def dg(p:Pm)(D:Dl)(dc:Nat)(u:U):Prop:=
 ∀(q:Pc)(a:Option Addr)(c:Nat)(w:World),ai p D u a c→KW p w→
  Xk 41 #[Xd D dc,Xt u a c,Xq q] w (RB (aj D.len u q .type) w)
theorem yo(p:Pm)(D:Dl)(dc:Nat)(u:U)(q:Pc)(a:Option Addr)(c:Nat)(w:World)(j:dg p D dc u)(hu:ai p D u a c)(hw:KW p w)(i f:Nat)
 (h1:Xc w i 0 (Xd D dc))(k:Xc w f 0 (.int .i64 q.d))(n:Xc w f 1 (.bool q.v))(o:Xc w f 2 (.bool q.t)):
 Xk 138 #[Xt u a c,Xp i,Xp f] w (RB (!aj D.len u q .type) w):=by
 have b1:=zb h1;have l:=zb k;simp only at b1 l;go_enter func138,ntmps138;go_wp2_with fail
 refine(j q a c _ hu (hw.alloc _)).mono ?_;rintro r m ⟨b,rfl,g,aa⟩;have e:Below w w m:=Below.trans ((Below.refl w.heap.size w).alloc zl _) (aa.mono zs);cases b
 ·have h:Hid (true= !aj D.len u q .type):=by have:=g.out;simp[Hid,←this]
  clear g aa;go_wp2_with fail
  go_ret;exact⟨_,rfl,h,e⟩
 ·have h:Hid (false= !aj D.len u q .type):=by have:=g.out;simp[Hid,←this]
  clear g aa;go_wp2_with fail
  go_ret;exact⟨_,rfl,h,e⟩
theorem jl(p:Pm)(D:Dl)(dc:Nat)(es:List U)(q:Pc)(a:Option Addr)(c:Nat)(w:World)(l:∀e∈es,dg p D dc e)(n:aq p D es a)(o:(es.length:Int)≤1048576)(hw:KW p w):
 Xk 84 #[Xd D dc,.slice a es.length c,Xq q] w (RB (es.all fun e=>aj D.len e q .type) w):=by
 have r:∀args w,(callFunc 138 args).run Tryz.prog w= .ok (.enter 138 args) w:=dG func138 zk rfl;have s:=zh fun W (t:KW p W) lb H=>lN p D es a c 138 lb (fun e=> !aj D.len e q .type) W t n o r H;have m:es.any (fun e=> !aj D.len e q .type)= !es.all fun e=>aj D.len e q .type:=kL _ _;have f:=zh m;clear m;have u:∀(fn:Fn)(first cap:Array Value)(w:World),(Instr.makeFunc fn first cap).run Tryz.prog w= .ok (.func fn first cap) w:=fun _ _ _ _=>rfl;go_enter func84,ntmps84;go_wp2_with fail
 refine(s.out _ ((hw.alloc _).alloc _) _ ?_).mono ?_
 ·intro i hi W a' c' d j
  refine yo p D dc es[i] q a' c' W (l _ (zm hi)) j (((hw.alloc _).alloc _).grown d) _ _ (cell_kept d zs) (cell_kept d zs) (cell_kept d zs) (cell_kept d zs)
 rintro x v ⟨b,rfl,h,aa⟩;clear l;have g:Below w w v:=Below.trans (((Below.refl w.heap.size w).alloc zl _).alloc zs _) (aa.mono zp);cases b
 ·have k:Hid (true=es.all fun e=>aj D.len e q .type):=by have:=h.out;rw[f.out]at this;unfold Hid;simpa using this
  clear h aa;go_wp2_with fail
  go_ret;exact⟨_,rfl,k,g⟩
 ·have k:Hid (false=es.all fun e=>aj D.len e q .type):=by have:=h.out;rw[f.out]at this;unfold Hid;simpa using this
  clear h aa;go_wp2_with fail
  go_ret;exact⟨_,rfl,k,g⟩
theorem pC{len:Nat}{u:U}{q:Pc}(h:u.k=13):aj len u q .term=(decide (u.es.length=1)&&u.es.all fun e=>aj len e q .type):=by
 rw[aj];simp only[h,if_true];simp
theorem pD{len:Nat}{u:U}{q:Pc}(h:u.k≠13):aj len u q .term=aj len u q .type:=by
 rw[aj];simp only[h,if_false]
theorem pE{len:Nat}{u:U}{q:Pc}(h:u.k=12):aj len u q .elem=(decide (2≤u.es.length)&&decide (u.es.length≤8)&&u.es.all fun e=>aj len e q .term):=by
 rw[aj];simp only[h,if_true];simp
theorem pF{len:Nat}{u:U}{q:Pc}(h:u.k≠12):aj len u q .elem=aj len u q .term:=by
 rw[aj,aj.eq_def len u q .term];simp only[h,if_false]
theorem sv(p:Pm)(D:Dl)(dc:Nat)(u:U)(q:Pc)(a:Option Addr)(c:Nat)(w:World)(l:dg p D dc u)(g:∀e∈u.es,dg p D dc e)(hu:ai p D u a c)(hw:KW p w):
 Xk 187 #[Xd D dc,Xt u a c,Xq q] w (RB (aj D.len u q .term) w):=by
 by_cases f:u.k=13
 ·have m:=ee f
  have hT:=pC (len:=D.len) (q:=q) f;by_cases h1:u.es.length=1
  ·obtain⟨e,he⟩:=cL h1
   have s:u.es[0]'zo=e:=by simp[he]
   obtain⟨b,o,rfl⟩:=hu.list.bg zo;obtain⟨a',c',h7,n⟩:=hu.list.get 0 zo;have E:=hu.list.lt zo hw;simp only[s,Nat.zero_mul,Nat.add_zero]at*;obtain⟨g0,g1,g2,g3,g4,g5,g6⟩:=h7.world hw;have z:=g e (by rw[he];simp) q a' c';have h:Hid (aj D.len u q .term=aj D.len e q .type):=by rw[hT];simp[Hid,he]
   have A:((u.es.length:Int)==1)=true:=by simp[h1]
   have F:(0:Int)<u.es.length:=zo;clear hT h1 g l s h7 f;have B:=zh he;clear he;rw[h.out];go_enter func187,ntmps187;go_wp2_with fail
   have G:0<u.es.length:=zo;have ae:Up p w ((w.alloc (Xt u (Xa b o) c)).alloc (Xq q)):=((Up.refl hw).alloc _).alloc _
   refine oR (fun W=>Xc W w 6 (.slice (Xa b o) u.es.length c)∧(Xc W (w+1) 0 (.int .i64 q.d)∧Xc W (w+1) 1 (.bool q.v)∧Xc W (w+1) 2 (.bool q.t))∧(Xs W b o e a' c')∧Up p w W)
    [(0,true),(1,true),(2,true),(3,true),(4,true),(5,true),(6,true),(7,true),(8,true),(9,true),(10,true),(11,false),(12,true),(13,true)] oK (fun j=> ?_)
   repeat(first|(refine oS ?_;try simp only[Act.put,oa,ob,oc])|(refine oF j ?_;try simp only[Act.put,oa,ob,oc])|(refine oL fun K x=> ?_;go_simp;first|(go_at_call 41;refine(z _ n (Up.kw (by first|assumption|exact ae.drew))).mono ?_;rintro C y ⟨bb,rfl,i,aa⟩;(try simp only[]);refine x _ _ oK fun j=> ?_;clear x K;try simp only[Act.put,oa,ob,oc])))
   refine bZ ?_;go_wp2_with fail
   go_ret;exact⟨_,rfl,i,(ae.drew.step aa).up⟩
  ·have h:Hid (false=aj D.len u q .term):=by rw[hT];simp[Hid,h1]
   have A:((u.es.length:Int)==1)=false:=zp;clear hT h1 g l f;have ae:Up p w ((w.alloc (Xt u a c)).alloc (Xq q)):=((Up.refl hw).alloc _).alloc _;go_enter func187,ntmps187;go_wp2_with fail
   go_quiet (fail)
   go_wp2_with fail
   go_ret;exact⟨_,rfl,h,(ae.drewN _).up⟩
 ·have m:=aE f
  have hT:=zh (pD (len:=D.len) (q:=q) f);clear f;rw[hT.out];go_enter func187,ntmps187;go_wp2_with fail
  refine(l q a c _ hu ((hw.alloc _).alloc _)).mono ?_;rintro C y ⟨bb,rfl,i,aa⟩;have r:Below w w y:=Below.trans (((Below.refl w.heap.size w).alloc zl _).alloc zs _) (aa.mono zp);clear l;go_wp2_with fail
  go_ret;exact⟨_,rfl,i,r⟩
theorem yw(p:Pm)(D:Dl)(dc:Nat)(u:U)(q:Pc)(a:Option Addr)(c:Nat)(w:World)(k:dg p D dc u)(f:∀e∈u.es,dg p D dc e)(hu:ai p D u a c)(hw:KW p w)(l h:Nat)
 (h1:Xc w l 0 (Xd D dc))(m:Xc w h 0 (.int .i64 q.d))(s:Xc w h 1 (.bool q.v))(x:Xc w h 2 (.bool q.t)):
 Xk 188 #[Xt u a c,Xp l,Xp h] w (RB (!aj D.len u q .term) w):=by
 have b1:=zb h1;have n:=zb m;simp only at b1 n;have hT:=zh fun W o=>sv p D dc u q a c W k f hu o;clear k f;go_enter func188,ntmps188;go_wp2_with fail
 refine(hT.out _ (hw.alloc _)).mono ?_;rintro y r ⟨b,rfl,i,aa⟩;have g:Below w w r:=Below.trans ((Below.refl w.heap.size w).alloc zl _) (aa.mono zs);cases b
 ·have j:Hid (true= !aj D.len u q .term):=by have:=i.out;simp[Hid,←this]
  clear i aa;go_wp2_with fail
  go_ret;exact⟨_,rfl,j,g⟩
 ·have j:Hid (false= !aj D.len u q .term):=by have:=i.out;simp[Hid,←this]
  clear i aa;go_wp2_with fail
  go_ret;exact⟨_,rfl,j,g⟩
theorem yx(p:Pm)(D:Dl)(dc:Nat)(u:U)(q:Pc)(a:Option Addr)(c:Nat)(w:World)(m:dg p D dc u)(f:∀e∈u.es,dg p D dc e∧∀E∈e.es,dg p D dc E)(hu:ai p D u a c)(hw:KW p w):
 Xk 140 #[Xd D dc,Xt u a c,Xq q] w (RB (aj D.len u q .elem) w):=by
 by_cases d:u.k=12
 ·have v:=ee d
  have hT:=pE (len:=D.len) (q:=q) d;have g:=hu.cap;have hk:=zh fun W (x:KW p W) lb H=>lN p D u.es a c 188 lb (fun e=> !aj D.len e q .term) W x hu.list zo (dG func188 zk rfl) H;rw[kL]at hk;have F:∀(fn:Fn)(first cap:Array Value)(w:World),(Instr.makeFunc fn first cap).run Tryz.prog w= .ok (.func fn first cap) w:=fun _ _ _ _=>rfl;by_cases n:2≤u.es.length
  ·by_cases s:u.es.length≤8
   ·have h:Hid (aj D.len u q .elem=u.es.all fun e=>aj D.len e q .term):=by rw[hT];simp[Hid,n,s]
    have C:(2:Int)≤u.es.length:=zo;have G:(u.es.length:Int)≤8:=zo;clear hT n s d g;have o:=zh f;clear f m;rw[h.out];go_enter func140,ntmps140;go_wp2_with fail
    refine(hk.out _ (((hw.alloc _).alloc _).alloc _) _ ?_).mono ?_
    ·intro i hi W a' c' j y
     have r:=o.out _ (zm hi);refine yw p D dc u.es[i] q a' c' W r.1 r.2 y ((((hw.alloc _).alloc _).alloc _).grown j) _ (w.heap.size+1+1) (cell_kept j (by simp[go_sem])) (cell_kept j (by simp[go_sem])) (cell_kept j (by simp[go_sem])) (cell_kept j (by simp[go_sem]))
    rintro I z ⟨b,rfl,t,aa⟩;have l:Below w w z:=Below.trans ((((Below.refl w.heap.size w).alloc zl _).alloc zs _).alloc zp _) (aa.mono zp);cases b
    ·have A:Hid (true=u.es.all fun e=>aj D.len e q .term):=by have:=t.out;unfold Hid;simpa using this
     clear t aa;go_wp2_with fail
     go_ret;exact⟨_,rfl,A,l⟩
    ·have A:Hid (false=u.es.all fun e=>aj D.len e q .term):=by have:=t.out;unfold Hid;simpa using this
     clear t aa;go_wp2_with fail
     go_ret;exact⟨_,rfl,A,l⟩
   ·have h:Hid (false=aj D.len u q .elem):=by rw[hT];simp[Hid,s]
    have C:(2:Int)≤u.es.length:=zo;have G:¬(u.es.length:Int)≤8:=zo;clear hT n s d g f m hk;go_enter func140,ntmps140;go_wp2_with fail
    go_ret;exact⟨_,rfl,h,((((Below.refl w.heap.size w).alloc zl _).alloc zs _).alloc zp _)⟩
  ·have h:Hid (false=aj D.len u q .elem):=by rw[hT];simp[Hid,n]
   have C:¬(2:Int)≤u.es.length:=zo;clear hT n d g f m hk;go_enter func140,ntmps140;go_wp2_with fail
   go_ret;exact⟨_,rfl,h,((((Below.refl w.heap.size w).alloc zl _).alloc zs _).alloc zp _)⟩
 ·have v:=aE d
  have hT:=zh (pF (len:=D.len) (q:=q) d);have J:=zh fun W x=>sv p D dc u q a c W m (fun e he=>(f e he).1) hu x;clear d m f;rw[hT.out];go_enter func140,ntmps140;go_wp2_with fail
  refine(J.out _ (((hw.alloc _).alloc _).alloc _)).mono ?_;rintro I z ⟨bb,rfl,B,aa⟩;have l:Below w w z:=Below.trans ((((Below.refl w.heap.size w).alloc zl _).alloc zs _).alloc zp _) (aa.mono zp);go_wp2_with fail
  go_ret;exact⟨_,rfl,B,l⟩
end Go.Proofs.YtkochlhejabdcaaGreatDoor
