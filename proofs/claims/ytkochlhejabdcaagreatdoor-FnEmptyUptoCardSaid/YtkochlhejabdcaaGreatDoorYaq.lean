import Derived.OwnWalk
import Derived.Sort.Grow
import Derived.Test.YtkochlhejabdcaaGreatDoorYam
import Derived.Test.YtkochlhejabdcaaGreatDoorYao
set_option maxRecDepth 100000
set_option maxHeartbeats 8000000
set_option linter.all false
namespace Go.Proofs.YtkochlhejabdcaaGreatDoor
open Go.RowKit TS Tryz
def ga(len:Nat)(n:Int)(un:U)(m:br):Bool:=
 aR m.nm&&m.sig.k==7&&aj len m.sig ⟨n,false,false⟩ .type&& !(un.es.any fun f=>un.k==5&&decide (f.nm.toList=m.nm.toList))
def fw(len:Nat)(n:Int)(un:U)(l:List br):Bool:=l.all (ga len n un)&&decide ((l.map fun m=>m.nm.toList).Nodup)
def dM(len:Nat)(n:Int)(d:aC):Bool:=
 !(decide (d.un.k<1)||d.un.k==2||decide (10<d.un.k))&&aj len d.un ⟨n,true,false⟩ .type&&fw len n d.un d.ms&&(decide (d.ms.length=0)||d.un.k !=10&&fp d.un)
theorem pQ{len:Nat}{n:Int}{un:U}(l:List br):fw len n un l=true↔(∀m∈l,ga len n un m=true)∧(l.map fun m=>m.nm.toList).Nodup:=by
 unfold fw;rw[Bool.and_eq_true,decide_eq_true_iff,List.all_eq_true]
theorem yV{len:Nat}{n:Int}{un:U}{l:List br}(k:Nat)(h:fw len n un l=true):fw len n un (l.take k)=true:=by
 rw[pQ]at*;refine⟨fun e he=>h.1 e (List.mem_of_mem_take he),?_⟩;rw[List.map_take];exact h.2.sublist (List.take_sublist _ _)
theorem sF{len:Nat}{n:Int}{un:U}{l:List br}{k:Nat}(hk:k<l.length):fw len n un (l.take (k+1))=true↔
 fw len n un (l.take k)=true∧ga len n un l[k]=true∧(l.take k).any (fun x=>decide (x.nm.toList=l[k].nm.toList))=false:=by
 rw[pQ,pQ,List.take_succ_eq_append_getElem hk,List.map_append,List.nodup_append];simp only[List.mem_append,List.mem_singleton,List.map_cons,List.map_nil,List.any_eq_false,decide_eq_true_eq,List.mem_map];constructor
 ·rintro⟨h1,a,_,b⟩
  refine⟨⟨fun e he=>h1 e (.inl he),a⟩,h1 _ (.inr rfl),fun x c he=>b _ ⟨x,c,rfl⟩ _ rfl he⟩
 ·rintro⟨⟨h1,a⟩,b,d⟩
  refine⟨?_,a,List.nodup_cons.2 ⟨by simp,List.nodup_nil⟩,?_⟩
  ·rintro e (he|rfl)
   ·exact h1 e he
   ·exact b
  ·rintro _ ⟨x,c,rfl⟩ _ rfl
   exact d x c
theorem yW{len:Nat}{n:Int}{un:U}{l:List br}{k:Nat}(hk:k<l.length)(h:ga len n un l[k]=false∨(l.take k).any (fun x=>decide (x.nm.toList=l[k].nm.toList))=true):fw len n un l=false:=by
 rw[Bool.eq_false_iff];intro a;have:=(sF hk).1 (yV (k+1) a);rcases h with h|h
 ·rw[h]at this;simp at this
 ·rw[h]at this;simp at this
theorem yX(p:Pm)(D:Dl)(dc:Nat)(d:aC)(n:Int)(a:Option Addr)(c:Nat)(Y:Option Addr)(I:Nat)(w:World)(hu:ai p D d.un a c)(hm:cM p D d.ms Y)(PT:d.ms.length≤I∧I≤1048576)(hw:KW p w):
 Xk 36 #[Xd D dc,Xe d a c Y I,.int .i64 n] w (RB (dM D.len n d) w):=by
 have PR:=hu.cap;have ae:Up p w ((((w.alloc (Xe d a c Y I)).alloc (.cells #[.int .i64 d.un.k] 3)).alloc (.cells #[.int .i64 n,.bool false,.bool false] 57)).alloc (.cells #[.int .i64 n,.bool true,.bool false] 57)):=((((Up.refl hw).alloc _).alloc _).alloc _).alloc _;obtain⟨r,hr⟩:∃r,r=dM D.len n d:=⟨_,rfl⟩
 rw[←hr];have C:=zh hr;clear hr;by_cases Z:d.un.k<1
 ·have t1:decide (d.un.k<1)=true:=by simp[Z]
  have hF:Hid (false=r):=by rw[C.out];simp[Hid,dM,t1]
  clear Z;go_enter func36,ntmps36;go_wp2_with fail
  go_ret;exact⟨_,rfl,hF,ae.up⟩
 have t1:decide (d.un.k<1)=false:=by simpa using Z
 cases t2:d.un.k==2;rotate_left
 ·have hF:Hid (false=r):=by rw[C.out];simp[Hid,dM,t2]
  go_enter func36,ntmps36;go_wp2_with fail
  go_ret;exact⟨_,rfl,hF,ae.up⟩
 by_cases k3:10<d.un.k
 ·have t3:decide (10<d.un.k)=true:=by simp[k3]
  have hF:Hid (false=r):=by rw[C.out];simp[Hid,dM,k3]
  clear Z;go_enter func36,ntmps36;go_wp2_with fail
  go_ret;exact⟨_,rfl,hF,ae.up⟩
 have t3:decide (10<d.un.k)=false:=by simpa using k3
 have G:=fun W t=>pP p D dc d.un ⟨n,true,false⟩ a c W hu t;cases j:aj D.len d.un ⟨n,true,false⟩ .type
 ·have hF:Hid (false=r):=by rw[C.out];simp[Hid,dM,j]
  have l:=fun W t=>aT (G W t) j;clear G j;go_enter func36,ntmps36;go_wp2_with fail
  refine(l _ ae.kw).mono ?_;rintro J g ⟨rfl,aa⟩;have q:=(ae.step aa).up;clear aa l;go_wp2_with fail
  go_ret;exact⟨_,rfl,hF,q⟩
 have l:=fun W t=>aT (G W t) j;have hR:Hid (r=(fw D.len n d.un d.ms&&(decide (d.ms.length=0)||d.un.k !=10&&fp d.un))):=by rw[C.out];simp[Hid,dM,t1,t2,t3,j]
 clear G j C Z k3;go_enter func36,ntmps36;go_wp2_with fail
 refine(l _ ae.kw).mono ?_;rintro J g ⟨rfl,aa⟩;have PG:=ae.step aa;obtain⟨l0,l1,l2,l3,l4,l5,l6,l7⟩:(Xc g w 0 (.int .i64 d.un.k)∧Xc g w 1 (.int .i64 d.un.n)∧Xc g w 2 (.int .i64 d.un.m)∧Xc g w 3 (.bool d.un.v)∧Xc g w 4 (.string d.un.nm)∧Xc g w 5 (.string d.un.tg)∧Xc g w 6 (.slice a d.un.es.length c)∧Xc g w 7 (.slice Y d.ms.length I)):=by
  repeat' apply And.intro
  all_goals exact cell_kept aa zq
 have i0:Xc g (w+1) 0 (.int .i64 d.un.k):=cell_kept aa zq;obtain⟨Q,q1,q2⟩:(Xc g (w+1+1) 0 (.int .i64 n)∧Xc g (w+1+1) 1 (.bool false)∧Xc g (w+1+1) 2 (.bool false)):=by
  repeat' apply And.intro
  all_goals exact cell_kept aa zq
 have hq:=zb Q;simp only at hq;clear l aa ae;have hC:=zh fun(m:br) a c W (hm:ai p D m.sig a c) t=>pP p D dc m.sig ⟨n,false,false⟩ a c W hm t;have PU:∀(fn:Fn)(first cap:Array Value)(w:World),(Instr.makeFunc fn first cap).run Tryz.prog w= .ok (.func fn first cap) w:=fun _ _ _ _=>rfl;have PK:=zh (show ∀args w,(callFunc 77 args).run Tryz.prog w= .ok (.enter 77 args) w from dG func77 zk rfl);have PL:=zh (show ∀args w,(callFunc 78 args).run Tryz.prog w= .ok (.enter 78 args) w from dG func78 zk rfl);go_wp2_with fail
 go_loopw [42] (fun i wr=> ∃k:Nat,k≤d.ms.length∧i= .int .i64 k∧fw D.len n d.un (d.ms.take k)=true∧Up p w wr∧
  (Xc wr w 0 (.int .i64 d.un.k)∧Xc wr w 1 (.int .i64 d.un.n)∧Xc wr w 2 (.int .i64 d.un.m)∧Xc wr w 3 (.bool d.un.v)∧Xc wr w 4 (.string d.un.nm)∧Xc wr w 5 (.string d.un.tg)∧Xc wr w 6 (.slice a d.un.es.length c)∧Xc wr w 7 (.slice Y d.ms.length I))∧Xc wr (w+1) 0 (.int .i64 d.un.k)∧(Xc wr (w+1+1) 0 (.int .i64 n)∧Xc wr (w+1+1) 1 (.bool false)∧Xc wr (w+1+1) 2 (.bool false))) (fun i _=>d.ms.length- (intOf i).toNat)
 case atStart=>exact⟨0,Nat.zero_le _,rfl,by simp[fw],PG,⟨l0,l1,l2,l3,l4,l5,l6,l7⟩,i0,Q,q1,q2⟩
 case round=>
  clear l0 l1 l2 l3 l4 l5 l6 l7 i0 Q q1 q2 hq PG;obtain⟨k,hk,rfl,hh,R,⟨l0,l1,l2,l3,l4,l5,l6,l7⟩,i0,Q,q1,q2⟩:=hrel;have hq:=zb Q;simp only at hq;have PH:=zh hh;clear hh;by_cases S:k<d.ms.length
  ·have PI:(k:Int)<d.ms.length:=zo
   obtain⟨b,o,rfl⟩:=hm.bg zo;obtain⟨hn,hp,PM,a',c',h7,PJ⟩:=hm.get k S;have e:Hid (ga D.len n d.un d.ms[k]=false∨(d.ms.take k).any (fun x=>decide (x.nm.toList=d.ms[k].nm.toList))=true→false=r):=fun h=>by rw[hR.out,yW S h];rfl
   have O:=zh (sF (len:=D.len) (n:=n) (un:=d.un) S).2;obtain⟨x,hx⟩:∃x,x=d.ms[k]:=⟨_,rfl⟩
   rw[←hx]at hn hp PM h7 PJ e O;clear hx;obtain⟨g0,g1,g2,g3,g4,g5,g6⟩:(Xc wr b (o+k*9+2) (.int .i64 x.sig.k)∧Xc wr b (o+k*9+3) (.int .i64 x.sig.n)∧Xc wr b (o+k*9+4) (.int .i64 x.sig.m)∧Xc wr b (o+k*9+5) (.bool x.sig.v)∧Xc wr b (o+k*9+6) (.string x.sig.nm)∧Xc wr b (o+k*9+7) (.string x.sig.tg)∧Xc wr b (o+k*9+8) (.slice a' x.sig.es.length c')):=h7.world R.kw;have gn:=R.kw _ _ _ hn;have gp:=R.kw _ _ _ hp;have gb:=zb gn;simp only at gb;clear h7 hn hp;have A:=R.alloc (Xm x a' c');have hN:=fun W=>lO x.nm W zo;have hX:=zh fun W (t:KW p W) lb H=>sD k p D (d.ms.take k) zp (Xa b o) I 77 lb (fun y=>decide (y.nm.toList=x.nm.toList)) W t (hm.take k) zp PK.out H;have X:=zh fun W (t:KW p W) lb H=>lN p D d.un.es a c 78 lb (fun y=>d.un.k==5&&decide (y.nm.toList=x.nm.toList)) W t hu.list zo PL.out H;have G:=fun W t=>hC.out x a' c' W PJ t;cases u:aR x.nm
   ·have hF:Hid (false=r):=e.out (.inl (by simp[ga,u]))
    have s:=fun W=>gH (hN W) u;clear u hN G hX X O e;go_wp2_with fail
    refine(s _).mono ?_;rintro J g ⟨rfl,rfl⟩;clear s;go_wp2_with fail
    go_ret;exact⟨_,rfl,hF,A.up⟩
   have s:=fun W=>gH (hN W) u;clear hN;by_cases h7:x.sig.k=7
   rotate_left
   ·have k7:(x.sig.k !=7)=true:=by simp[h7]
    have hF:Hid (false=r):=e.out (.inl (by simp[ga,h7]));clear u G hX X O e h7;go_wp2_with fail
    refine(s _).mono ?_;rintro J g ⟨rfl,rfl⟩;clear s;go_wp2_with fail
    go_ret;exact⟨_,rfl,hF,A.up⟩
   have k7:(x.sig.k !=7)=false:=by simp[h7]
   cases j:aj D.len x.sig ⟨n,false,false⟩ .type
   ·have hF:Hid (false=r):=e.out (.inl (by simp[ga,j]))
    have l:=fun W t=>aT (G W t) j;clear u G hX X O e h7 j;go_wp2_with fail
    refine(s _).mono ?_;rintro J g ⟨rfl,rfl⟩;clear s;go_wp2_with fail
    refine(l _ A.kw).mono ?_;rintro J g ⟨rfl,aa⟩;have q:=(A.step aa).up;clear aa l;go_wp2_with fail
    go_ret;exact⟨_,rfl,hF,q⟩
   have l:=fun W t=>aT (G W t) j;have hO:Hid (ga D.len n d.un x= !(d.un.es.any fun f=>d.un.k==5&&decide (f.nm.toList=x.nm.toList))):=by simp[Hid,ga,u,h7,j]
   clear u h7 j G;go_wp2_with fail
   refine(s _).mono ?_;rintro J g ⟨rfl,rfl⟩;clear s;go_wp2_with fail
   refine(l _ A.kw).mono ?_;rintro J g ⟨rfl,aa⟩;have K:=A.step aa;obtain⟨L0,L1,L2,L3,L4,L5,L6,L7⟩:(Xc g w 0 (.int .i64 d.un.k)∧Xc g w 1 (.int .i64 d.un.n)∧Xc g w 2 (.int .i64 d.un.m)∧Xc g w 3 (.bool d.un.v)∧Xc g w 4 (.string d.un.nm)∧Xc g w 5 (.string d.un.tg)∧Xc g w 6 (.slice a d.un.es.length c)∧Xc g w 7 (.slice (Xa b o) d.ms.length I)):=by
    repeat' apply And.intro
    all_goals exact cell_kept aa zq
   have I0:Xc g (w+1) 0 (.int .i64 d.un.k):=cell_kept aa zq;obtain⟨Q0,Q1,Q2⟩:(Xc g (w+1+1) 0 (.int .i64 n)∧Xc g (w+1+1) 1 (.bool false)∧Xc g (w+1+1) 2 (.bool false)):=by
    repeat' apply And.intro
    all_goals exact cell_kept aa zq
   have M0:Xc g wr 0 (.string x.nm):=cell_kept aa zq;have PN:=zb M0;simp only at PN;clear aa l A gn gp gb g0 g1 g2 g3 g4 g5 g6 l0 l1 l2 l3 l4 l5 l6 l7 i0 Q q1 q2;have PW:max (k:Int) 0=k:=zo;have PX:k≤I:=zo;go_wp2_with fail
   refine(hX.out _ K.kw _ ?_).mono ?_
   ·intro i hi W a2 c2 L PO
    exact yT _ x.nm a2 c2 W wr.heap.size (cell_kept L M0)
   rintro J E ⟨bb,rfl,M,z⟩;clear hX;cases bb;rotate_left
   ·have hF:Hid (false=r):=e.out (.inr M.out.symm)
    have q:=(K.step z).up;clear M z X O e;go_wp2_with fail
    go_ret;exact⟨_,rfl,hF,q⟩
   have T:=K.step z;obtain⟨l0,l1,l2,l3,l4,l5,l6,l7⟩:(Xc E w 0 (.int .i64 d.un.k)∧Xc E w 1 (.int .i64 d.un.n)∧Xc E w 2 (.int .i64 d.un.m)∧Xc E w 3 (.bool d.un.v)∧Xc E w 4 (.string d.un.nm)∧Xc E w 5 (.string d.un.tg)∧Xc E w 6 (.slice a d.un.es.length c)∧Xc E w 7 (.slice (Xa b o) d.ms.length I)):=by
    repeat' apply And.intro
    all_goals exact cell_kept z zq
   have i0:Xc E (w+1) 0 (.int .i64 d.un.k):=cell_kept z zq;obtain⟨Q,q1,q2⟩:(Xc E (w+1+1) 0 (.int .i64 n)∧Xc E (w+1+1) 1 (.bool false)∧Xc E (w+1+1) 2 (.bool false)):=by
    repeat' apply And.intro
    all_goals exact cell_kept z zq
   have m0:Xc E wr 0 (.string x.nm):=cell_kept z zq;have PQ:=zb m0;simp only at PQ;clear z K L0 L1 L2 L3 L4 L5 L6 L7 I0 Q0 Q1 Q2 M0;go_wp2_with fail
   refine(X.out _ T.kw _ ?_).mono ?_
   ·intro i hi W a2 c2 L PO
    exact yU _ d.un.k x.nm a2 c2 W (w.heap.size+1) wr.heap.size (cell_kept L i0) (cell_kept L m0)
   rintro J w3 ⟨b2,rfl,B,N⟩;clear X;cases b2;rotate_left
   ·have hF:Hid (false=r):=e.out (.inl (by rw[hO.out,←B.out];rfl))
    have q:=(T.step N).up;clear B N O e;go_wp2_with fail
    go_ret;exact⟨_,rfl,hF,q⟩
   have hH:Hid (fw D.len n d.un (d.ms.take (k+1))=true):=O.out ⟨PH.out,by rw[hO.out,←B.out];rfl,M.out.symm⟩;clear O e B M;go_wp2_with fail
   go_roundw
   case rel=>
    refine⟨k+1,by omega,by go_num,hH.out,T.step N,?_⟩;repeat' apply And.intro
    all_goals exact cell_kept N za
   case measure=>simp[intOf];omega
  ·have U:k=d.ms.length:=zo
   have PI:¬(k:Int)<d.ms.length:=zo;have V:Hid ((decide (d.ms.length=0)||d.un.k !=10&&fp d.un)=r):=by
    have:=PH.out;rw[U,List.take_length]at this;rw[hR.out,this];simp[Hid]
   have PS:=zh U;clear U;by_cases P:d.ms.length=0
   ·have k0:((d.ms.length:Int)==0)=true:=by simp[P]
    have hF:Hid (true=r):=by rw[←V.out];simp[Hid,P]
    clear P;go_wp2_with fail
    go_ret;exact⟨_,rfl,hF,R.up⟩
   have k0:((d.ms.length:Int)==0)=false:=by simpa using P
   by_cases F:d.un.k=10
   ·have t10:(d.un.k !=10)=false:=by simp[F]
    have hF:Hid (false=r):=by rw[←V.out];simp[Hid,P,F]
    clear P F;go_wp2_with fail
    go_ret;exact⟨_,rfl,hF,R.up⟩
   have t10:(d.un.k !=10)=true:=by simp[F]
   have hF:Hid (fp d.un=r):=by rw[←V.out];simp[Hid,P,F]
   clear P F;go_wp2_with fail
   refine(sE d.un a c _).mono ?_;rintro J g ⟨b,rfl,hb,aa⟩;have q:=(R.step aa).up;have hI:=zh (hb.out.trans hF.out);clear hb aa;go_wp2_with fail
   go_ret;exact⟨_,rfl,hI,q⟩
end Go.Proofs.YtkochlhejabdcaaGreatDoor
namespace TS
open Go Go.RowKit Go.Proofs.Tryz
theorem Form.jm{len:Nat}{u:U}{pos f:Nat}(h:Form len u pos f)(hk:u.k=10):0≤u.m∧u.m.toNat≤u.es.length∧u.es.length- u.m.toNat≤4:=by
 cases h with
 |iface _ a b c _ _=>exact⟨a,b,c⟩
 |pre a _=>omega
 |one a _ _=>omega
 |ptr a _ _ _=>omega
 |_=>omega
theorem yY{α:Type}{l:List α}{n:Nat}{e:α}(h:e∈l.drop n):∃i,∃hi:i<l.length,n≤i∧l[i]=e:=by
 obtain⟨i,hi,rfl⟩:=List.getElem_of_mem h;rw[List.length_drop]at hi;exact⟨n+i,by omega,by omega,by rw[List.getElem_drop]⟩
theorem yZ{α:Type}{l:List α}{n:Nat}{e:α}(h:e∈l.take n):∃i,∃hi:i<l.length,i<n∧l[i]=e:=by
 obtain⟨i,hi,rfl⟩:=List.getElem_of_mem h;rw[List.length_take]at hi;exact⟨i,by omega,by omega,by rw[List.getElem_take]⟩
theorem aq.y9{p:Pm}{D:Dl}{l:List U}{a:Option Addr}(h:aq p D l a){i c:Nat}(b:¬i<c)(d:l.length≤c):aq p D (l.drop i) a:=by
 rw[List.drop_eq_nil_of_le zo];exact aq.nil
theorem aq.lR{p:Pm}{D:Dl}{l:List U}{a:Option Addr}(h:aq p D l a){i c:Nat}(hi:i≤l.length)(b:l.length≤c):aq p D (l.drop i) (if i<c then Option.map (fun x=>x.add (i*7)) a else a):=by
 split
 ·exact h.cut i hi
 ·exact h.y9 ‹_› b
theorem Pl.elem{len:Nat}{u:U}{pos f:Nat}(h:Pl len u pos f)(hk:u.k=10){e:U}(he:e∈u.es.drop u.m.toNat):Pl len e 2 2:=by
 obtain⟨i,hi,a,rfl⟩:=yY he;have:=h.part i hi;rw[show aS u i=2 by unfold aS;rw[if_neg zo,if_pos ⟨hk,a⟩]]at this;rwa [show aO u i f=2 by unfold aO;split;rfl;rw[if_pos ⟨hk,a⟩]]at this
theorem Pl.jn{len:Nat}{u:U}{pos f:Nat}(h:Pl len u pos f)(hk:u.k=10){e:U}(he:e∈u.es.take u.m.toNat):e.k=7∧aR e.nm=true∧Pl len e 0 (if f=2 then 2 else 0):=by
 have b:e.k=7∧aR e.nm=true:=by
  have c:=h.form;cases c with
  |iface _ _ _ _ hm _=>exact hm e he
  |pre a _=>omega
  |one a _ _=>omega
  |ptr a _ _ _=>omega
  |_=>omega
 refine⟨b.1,b.2,?_⟩;obtain⟨i,hi,d,rfl⟩:=yZ he;have:=h.part i hi;rw[show aS u i=0 by unfold aS;rw[if_neg zo,if_neg zo]]at this;rwa [show aO u i f=(if f=2 then 2 else 0) by unfold aO;split;rfl;rw[if_neg zo,if_neg zo]]at this
end TS
namespace Go.Proofs.YtkochlhejabdcaaGreatDoor
open Go.RowKit TS Tryz
def sI(D:Dl)(dc:Nat)(u:U):Prop:=
 ∀(p:Pm)(pos f:Nat)(a:Option Addr)(c:Nat)(w:World),Pl D.len u pos f→f≤2→f≠0→u.k≠12→u.k≠13→ai p D u a c→KW p w→
  Xk 76 #[Xd D dc,Xt u a c] w (RB (bd u) w)
theorem y_(p:Pm)(D:Dl)(dc:Nat)(u:U)(f:Nat)(a:Option Addr)(c:Nat)(w:World)(v:sI D dc u)(s:Pl D.len u 2 f)(y:f≤2)(n:f≠0)(hu:ai p D u a c)(hw:KW p w)(B:Nat)
 (h1:Xc w B 0 (Xd D dc)):
 Xk 136 #[Xt u a c,Xp B] w (RB (u.k==12||u.k==13|| !isIface u||bd u) w):=by
 have b1:=zb h1;simp only at b1;have ae:Up p w (w.alloc (Xt u a c)):=(Up.refl hw).alloc _;obtain⟨r,hr⟩:∃r,r=(u.k==12||u.k==13|| !isIface u||bd u):=⟨_,rfl⟩
 rw[←hr];cases d:u.k==12
 case true=>
  have hF:Hid (true=r):=by rw[hr,d];rfl
  clear hr;go_enter func136,ntmps136;go_wp2_with fail
  go_ret;exact⟨_,rfl,hF,ae.up⟩
 have e:u.k≠12:=by simpa using d
 cases h:u.k==13
 case true=>
  have hF:Hid (true=r):=by rw[hr,d,h];rfl
  clear hr e;go_enter func136,ntmps136;go_wp2_with fail
  go_ret;exact⟨_,rfl,hF,ae.up⟩
 have i:u.k≠13:=by simpa using h
 have t:=fun W j=>fM p D dc u 2 f a c W s y n e i hu j;have l:=fun W j=>v p 2 f a c W s y n e i hu j;cases hi:isIface u
 ·have g:=fun W j=>aT (t W j) hi
  have hF:Hid (true=r):=by rw[hr,d,h,hi];rfl
  clear hr hi t l e i v s;go_enter func136,ntmps136;go_wp2_with fail
  refine(g _ ae.kw).mono ?_;rintro z x ⟨rfl,aa⟩;have m:=(ae.step aa).up;clear aa g;go_wp2_with fail
  go_ret;exact⟨_,rfl,hF,m⟩
 have g:=fun W j=>aT (t W j) hi;have hF:Hid (bd u=r):=by rw[hr,d,h,hi];rfl
 clear hr hi t e i v s;go_enter func136,ntmps136;go_wp2_with fail
 refine(g _ ae.kw).mono ?_;rintro z x ⟨rfl,aa⟩;have o:=ae.step aa;have c1:Xc x B 0 (Xd D dc):=cell_kept aa (by rw[World.cell?_alloc_lt _ _ _ b1];exact h1);obtain⟨C,E,F,G,H,I,J⟩:TS.L7 x w.heap.size u a c:=by
  repeat' apply And.intro
  all_goals exact cell_kept aa zq
 clear aa g ae;go_wp2_with fail
 refine(l _ o.kw).mono ?_;rintro z K ⟨b,rfl,A,q⟩;have m:=(o.step q).up;clear q l;go_wp2_with fail
 go_ret;exact⟨_,rfl,A.out.trans hF.out,m⟩
theorem lS(D:Dl)(dc:Nat):∀u,sI D dc u:=by
 intro u;induction u using U.bc with
 |_ u ih=>
  intro p pos f a c w I T x y z hu hw;obtain⟨f',PG,V,d,hk,j⟩:=I.under T x y z;have J:=fun W K=>f_ p D dc u pos f a c W I T x y z hu K;have ae:Up p w ((w.alloc (.cells #[Xd D dc] 22)).alloc (Xt u a c)):=((Up.refl hw).alloc _).alloc _;have l:= @iR u;have o:= @fA u;generalize bd u=r at*;generalize under u=v at*;cases bC:v.k==10
  ·have hF:Hid ((v.k==16)=r):=(o (by simpa using bC)).symm
   clear l o ih I d hk j;go_enter func76,ntmps76;go_wp2_with fail
   refine(J _ ae.kw).mono ?_;rintro X Y ⟨q,L,c1,rfl,hg,A,s,aa⟩;have B:=(ae.step aa).up;clear J aa;go_wp2_with fail
   go_ret;exact⟨_,rfl,hF,B.alloc B.size _⟩
  ·have g:v.k=10:=by simpa using bC
   have hF:=zh (l g);obtain⟨PH,M,h4⟩:=d.form.jm g;have hE:=zh fun e he=>d.elem g (e:=e) he;have hS:=zh fun e (he:e∈v.es.drop v.m.toNat)=>ih e (Nat.lt_of_lt_of_le (U.ar (List.mem_of_mem_drop he)) j);clear l o ih I d hk j g;have PI:max v.m 0=v.m:=zo;have Z:v.m≤v.es.length:=zo;have PJ:∀(fn:Fn)(first cap:Array Value)(w:World),(Instr.makeFunc fn first cap).run Tryz.prog w= .ok (.func fn first cap) w:=fun _ _ _ _=>rfl;have eg:=zh (show ∀args w,(callFunc 136 args).run Tryz.prog w= .ok (.enter 136 args) w from dG func136 zk rfl);go_enter func76,ntmps76;go_wp2_with fail
   refine(J _ ae.kw).mono ?_;rintro X Y ⟨q,L,c1,rfl,hg,A,s,aa⟩;have N:=ae.step aa;have h:=s.cap;have c0:Xc Y w 0 (Xd D dc):=cell_kept aa (by simp[go_sem]);have O:=zh fun W (K:KW q W) n (hn:n=(v.es.drop v.m.toNat).length) a2 c2 (C:aq q D (v.es.drop v.m.toNat) a2) lb H=>fZ n q D (v.es.drop v.m.toNat) hn a2 c2 136 lb (fun u=>u.k==12||u.k==13|| !isIface u||bd u) W K C zp eg.out H;have P:=N.alloc (Xt v L c1);have E:=A.alloc (Xt v L c1);have Q:=h.1;clear J aa h;have t:v.m.toNat<c1∨c1=v.m.toNat:=zo;rcases t with t|rfl
   all_goals
    go_wp2_with fail
    have C:=s.list.lR M Q;first|rw[if_pos t]at C|rw[if_neg (Nat.lt_irrefl _)]at C
    refine(O.out _ E _ (by simp;try omega) _ _ C _ ?_).mono ?_
    ·intro i hi W a' c' F R
     have he:=zm hi;exact y_ q D dc _ 2 a' c' W (hS.out _ he) (hE.out _ he) zo zo R (E.grown F) _ (cell_kept F (by rw[World.cell?_alloc_lt _ _ _ (zb c0)];exact c0))
    rintro X w2 ⟨b,rfl,hb,G⟩;have S:=(P.step G).up;clear G;go_wp2_with fail
    go_ret;exact⟨_,rfl,by rw[hF.out];exact hb.out,S⟩
end Go.Proofs.YtkochlhejabdcaaGreatDoor
namespace Go.Proofs.YtkochlhejabdcaaGreatDoor
open Go.RowKit TS Tryz
theorem nA(p:Pm)(D:Dl)(dc:Nat)(u:U)(pos f:Nat)(a:Option Addr)(c:Nat)(w:World)(l:Pl D.len u pos f)(n:f≤2)(i:f≠0)(hu:ai p D u a c)(hw:KW p w):
 Xk 190 #[Xd D dc,Xt u a c] w (RB (aW u) w):=by
 have ae:Up p w (w.alloc (Xt u a c)):=(Up.refl hw).alloc _;obtain⟨r,hr⟩:∃r,r=aW u:=⟨_,rfl⟩
 rw[←hr];unfold aW at hr;cases g:u.k==12
 case true=>
  have n12:(u.k !=12)=false:=by simp[bne,g]
  have hF:Hid (false=r):=by rw[hr,n12];rfl
  clear hr;go_enter func190,ntmps190;go_wp2_with fail
  go_ret;exact⟨_,rfl,hF,ae.up⟩
 have d:u.k≠12:=by simpa using g
 have n12:(u.k !=12)=true:=by simp[d]
 cases h:u.k==13
 case true=>
  have n13:(u.k !=13)=false:=by simp[bne,h]
  have hF:Hid (false=r):=by rw[hr,n12,n13];rfl
  clear hr d;go_enter func190,ntmps190;go_wp2_with fail
  go_ret;exact⟨_,rfl,hF,ae.up⟩
 have e:u.k≠13:=by simpa using h
 have n13:(u.k !=13)=true:=by simp[e]
 have m:=fun W o=>fM p D dc u pos f a c W l n i d e hu o;have hF:Hid (isIface u=r):=by rw[hr,n12,n13];rfl
 clear hr d e l;go_enter func190,ntmps190;go_wp2_with fail
 refine(m _ ae.kw).mono ?_;rintro s t ⟨b,rfl,q,aa⟩;have j:=(ae.step aa).up;clear aa m;go_wp2_with fail
 go_ret;exact⟨_,rfl,q.out.trans hF.out,j⟩
def sJ(D:Dl)(dc:Nat)(u:U):Prop:=
 ∀(p:Pm)(pos f:Nat)(a:Option Addr)(c:Nat)(w:World),Pl D.len u pos f→f≤2→f≠0→u.k≠12→u.k≠13→isIface u=true→ai p D u a c→KW p w→
  Xk 191 #[Xd D dc,Xt u a c] w (RB (eT u) w)
theorem kN{u:U}:aW u=true↔u.k≠12∧u.k≠13∧isIface u=true:=by unfold aW;simp[and_assoc]
theorem zc(p:Pm)(D:Dl)(dc:Nat)(u:U)(f:Nat)(a:Option Addr)(c:Nat)(w:World)(q:sJ D dc u)(n:Pl D.len u 2 f)(s:f≤2)(h:f≠0)(hu:ai p D u a c)(hw:KW p w)(B:Nat)
 (h1:Xc w B 0 (Xd D dc)):
 Xk 224 #[Xt u a c,Xp B] w (RB (aW u&&eT u) w):=by
 have b1:=zb h1;simp only at b1;have ae:Up p w (w.alloc (Xt u a c)):=(Up.refl hw).alloc _;have o:=fun W e=>nA p D dc u 2 f a c W n s h hu e;cases he:aW u
 ·have d:=fun W e=>aT (o W e) he
  clear q o he n;go_enter func224,ntmps224;go_wp2_with fail
  refine(d _ ae.kw).mono ?_;rintro t r ⟨rfl,aa⟩;have g:=(ae.step aa).up;clear aa d;go_wp2_with fail
  go_ret;exact⟨_,rfl,rfl,g⟩
 have d:=fun W e=>aT (o W e) he;obtain⟨i,j,hi⟩:=kN.1 he;have k:=fun W e=>q p 2 f a c W n s h i j hi hu e;clear q o he n hi i j;go_enter func224,ntmps224;go_wp2_with fail
 refine(d _ ae.kw).mono ?_;rintro t r ⟨rfl,aa⟩;have l:=ae.step aa;have c1:Xc r B 0 (Xd D dc):=cell_kept aa (by rw[World.cell?_alloc_lt _ _ _ b1];exact h1);obtain⟨x,y,z,A,C,E,F⟩:TS.L7 r w.heap.size u a c:=by
  repeat' apply And.intro
  all_goals exact cell_kept aa zq
 clear aa d ae;go_wp2_with fail
 refine(k _ l.kw).mono ?_;rintro t G ⟨b,rfl,v,m⟩;have g:=(l.step m).up;clear m k;go_wp2_with fail
 go_ret;exact⟨_,rfl,v,g⟩
theorem ze(D:Dl)(dc:Nat):∀u,sJ D dc u:=by
 intro u;induction u using U.bc with
 |_ u ih=>
  intro p pos f a c w I T x y z hi hu hw;obtain⟨f',PG,V,d,hk,h⟩:=I.under T x y z;have J:=fun W K=>f_ p D dc u pos f a c W I T x y z hu K;have ae:Up p w ((w.alloc (.cells #[Xd D dc] 22)).alloc (Xt u a c)):=((Up.refl hw).alloc _).alloc _;have t:=sH u;unfold isIface at hi;generalize eT u=r at*;generalize under u=v at*;cases j:v.k==16
  ·have l:v.k=10:=by simpa [j]using hi
   have hF:Hid (r=(v.es.drop v.m.toNat).any fun e=>aW e&&eT e):=by rw[t,j];rfl
   obtain⟨PH,L,h4⟩:=d.form.jm l;have hE:=zh fun e he=>d.elem l (e:=e) he;have hS:=zh fun e (he:e∈v.es.drop v.m.toNat)=>ih e (Nat.lt_of_lt_of_le (U.ar (List.mem_of_mem_drop he)) h);clear t ih I d hk h l hi;have PI:max v.m 0=v.m:=zo;have X:v.m≤v.es.length:=zo;have PJ:∀(fn:Fn)(first cap:Array Value)(w:World),(Instr.makeFunc fn first cap).run Tryz.prog w= .ok (.func fn first cap) w:=fun _ _ _ _=>rfl;have eg:=zh (show ∀args w,(callFunc 224 args).run Tryz.prog w= .ok (.enter 224 args) w from dG func224 zk rfl);go_enter func191,ntmps191;go_wp2_with fail
   refine(J _ ae.kw).mono ?_;rintro Y Z ⟨q,M,c1,rfl,t,A,o,aa⟩;have N:=ae.step aa;have g:=o.cap;have c0:Xc Z w 0 (Xd D dc):=cell_kept aa (by simp[go_sem]);have O:=zh fun W (K:KW q W) n (hn:n=(v.es.drop v.m.toNat).length) a2 c2 (B:aq q D (v.es.drop v.m.toNat) a2) lb H=>fZ n q D (v.es.drop v.m.toNat) hn a2 c2 224 lb (fun u=>aW u&&eT u) W K B zp eg.out H;have P:=N.alloc (Xt v M c1);have C:=A.alloc (Xt v M c1);have Q:=g.1;clear J aa g;have s:v.m.toNat<c1∨c1=v.m.toNat:=zo;rcases s with s|rfl
   all_goals
    go_wp2_with fail
    have B:=o.list.lR L Q;first|rw[if_pos s]at B|rw[if_neg (Nat.lt_irrefl _)]at B
    refine(O.out _ C _ (by simp;try omega) _ _ B _ ?_).mono ?_
    ·intro i hi W a' c' E R
     have he:=zm hi;exact zc q D dc _ 2 a' c' W (hS.out _ he) (hE.out _ he) zo zo R (C.grown E) _ (cell_kept E (by rw[World.cell?_alloc_lt _ _ _ (zb c0)];exact c0))
    rintro Y w2 ⟨b,rfl,hb,F⟩;have S:=(P.step F).up;clear F;go_wp2_with fail
    go_ret;exact⟨_,rfl,by rw[hF.out];exact hb.out,S⟩
  ·have hF:Hid (true=r):=by rw[t,j];rfl
   clear t ih I d hk h hi;go_enter func191,ntmps191;go_wp2_with fail
   refine(J _ ae.kw).mono ?_;rintro Y Z ⟨q,M,c1,rfl,t,A,o,aa⟩;have G:=(ae.step aa).up;clear J aa;go_wp2_with fail
   go_ret;exact⟨_,rfl,hF,G.alloc G.size _⟩
theorem js:(Tryz.prog.info? 25).map (fun i=>(i.zero,i.size,i.bytes))=some (.some (Xt cC none 0),7,88):=zk
theorem s_{k:IntKind}{a b:Int}(h:a=b):Ending.returned (.int k a)= .returned (.int k b):=by rw[h]
def RO(p:Pm)(D:Dl)(l:List U)(w:World)(e:Ending)(a:World):Prop:=
 ∃v L,e= .returned v∧Hid (aL L=l)∧dX p D L∧a.ownsRow w 25 7 v L.length (aX L)∧Below w w a
theorem zD(p:Pm)(D:Dl)(l:List U)(a:Option Addr)(n c:Nat)(w:World)(B:n=l.length)(Q:l.length≤1048576)(t:aq p D l a)(hw:KW p w):
 Xk 64 #[.slice a n c] w (RO p D l w):=by
 cases a with
 |none=>
  cases l with
  |cons e r=>obtain⟨b,o,h⟩:=t.bg zs;cases h
  |nil=>
   simp only[List.length_nil]at B;subst B;have hr:RO p D [] w (.returned (.slice none 0 0)) w:=⟨_,[],rfl,rfl,(fun x F=>by cases F),World.ownsRow_nil _ _ _ _,Below.refl _ _⟩
   have G:=zh hr;clear hr t;have v:=fun(w:World)=>Lib.run_eql_slice_nil (P:=Tryz.prog) w 23 25 none 0 c 0 0 underlying23;go_enter func64,ntmps64;go_wp2_with fail
   go_ret;exact G.out
 |some x=>
  obtain⟨L,f,C,E⟩:∃L,aL L=l∧dX p D L∧∀j u,(aX L)[j]?=some u→w.cell? (x.add j)=some u∧(x.add j).block<w.heap.size:=by
   cases l with
   |nil=>exact⟨[],rfl,(fun x F=>by cases F),fun j u h=>by simp[aX]at h⟩
   |cons e r=>
    obtain⟨b,o,ha⟩:=t.bg zs;cases ha;obtain⟨L,f,C,E⟩:=nD t;refine⟨L,f,C,fun j u hu=> ?_⟩;have:=hw _ _ _ (E j u hu);rw[show((Xa b o):Addr).add j=(Xa b (o+j)) by unfold Addr.add;split<;>simp_all];exact⟨this,zb this⟩
  have q:L.length=n:=by rw[B,←f];simp[aL]
  have H:Hid (∀j u,(aX L)[j]?=some u→(w.alloc (.cells #[] 25)).cell? (x.add j)=some u):=fun j u hu=>by
   have:=E j u hu;rw[World.cell?_alloc_lt _ _ _ this.2];exact this.1
  have I:=zh C;have y:=zh f;have h1:=zh (kW L);have hlen:=zh (show(aX L).length=n*7 by rw[gh,q]);have m:(w.alloc (.cells #[] 25)).ownsRow w 25 7 (.slice (Xa w 0) 0 0) 0 []:=World.ownsRow_made w #[] 0 zl (by unfold maxLen;omega) zs;have s:=zh m;have aa:n≤1048576:=zo;have z:=zh q;clear C f E t B Q m q;obtain⟨i0,hi,J,K,M⟩:=info_parts js;have v:=fun(w:World)=>Lib.run_eql_slice_nil (P:=Tryz.prog) w 23 25 (some x) n c 0 0 underlying23;go_enter func64,ntmps64;go_wp2_with (at_builtin;refine wpList_append_own _ rfl _ _ 23 rfl w.heap.size 25 i0 (Xt cC none 0) 7 88 underlying23 hi J K M rfl zd _ _ _ rfl s.out x n c (aX L) rfl hlen.out H.out h1.out ?c3 ?c4 ?c5 ?_)
  case c3=>unfold maxLen;omega
  case c4=>omega
  case c5=>simp
  intro R O g A _;have d:O.ownsRow w 25 7 R L.length (aX L):=by rw[z.out];simpa only[Nat.zero_add,List.nil_append]using g
  have i:=zh d;clear d;have N:Below w w O:=((Below.refl w.heap.size w).alloc zl _).grown A zs fun k hk=>by simp[Value.ownBlock]at hk;omega
  clear g A;go_wp2_with fail
  go_ret;exact⟨_,L,rfl,y.out,I.out,i.out,N⟩
theorem zE(u:U)(s:ByteArray)(a:Option Addr)(c:Nat)(w:World)(B:Nat)(b:Xc w B 4 (.string s)):
 Xk 65 #[Xt u a c,Xp B] w (RB (decide (u.nm.toList=s.toList)) w):=by
 have b1:=zb b;simp only at b1;have d:Hid ((u.nm.toList==s.toList)=decide (u.nm.toList=s.toList)):=by simp only[Hid];rw[Bool.eq_iff_iff];simp
 go_enter func65,ntmps65;go_wp2_with fail
 go_ret;exact⟨_,rfl,d,(Below.refl w.heap.size w).alloc zl _⟩
def g_(x y:R3):Int:=if bF x.1 y.1 then-1 else 1
theorem zF(u v:U)(a a':Option Addr)(c c':Nat)(w:World):
 Xk 67 #[Xt u a c,Xt v a' c'] w fun e g=>e= .returned (.int .i64 (g_ (u,a,c) (v,a',c')))∧∃q d,g=Sort.grow (w.drewN q) d:=by
 cases b:bF u v
 ·have hF:Hid ((1:Int)=g_ (u,a,c) (v,a',c')):=by simp[Hid,g_,b]
  have f:Go.Op.bytesLess u.nm.toList v.nm.toList=false:=b;clear b;go_enter func67,ntmps67;go_wp2_with fail
  go_ret;exact⟨s_ hF.out,0,_,by rw[Sort.alloc_eq_grow,Sort.alloc_eq_grow,Sort.grow_grow];rfl⟩
 ·have hF:Hid ((-1:Int)=g_ (u,a,c) (v,a',c')):=by simp[Hid,g_,b]
  have f:Go.Op.bytesLess u.nm.toList v.nm.toList=true:=b;clear b;go_enter func67,ntmps67;go_wp2_with fail
  go_ret;exact⟨s_ hF.out,0,_,by rw[Sort.alloc_eq_grow,Sort.alloc_eq_grow,Sort.grow_grow];rfl⟩
end Go.Proofs.YtkochlhejabdcaaGreatDoor
