import Derived.Test.YtkochlhejabdcaaGreatDoorYan
set_option maxRecDepth 100000
set_option maxHeartbeats 8000000
set_option linter.all false
namespace Go.Proofs.YtkochlhejabdcaaGreatDoor
open Go.RowKit TS Tryz
theorem yP(p:Pm)(D:Dl)(dc:Nat)(u:U)(q:Pc)(a:Option Addr)(c:Nat)(w:World)(h:u.k=7)(H:∀e∈u.es,dg p D dc e)(hu:ai p D u a c)(hw:KW p w):
 Xk 41 #[Xd D dc,Xt u a c,Xq q] w (RB (aj D.len u q .type) w):=by
 have t1:(u.k==1)=false:=aE zo;have t14:(u.k==14)=false:=aE zo;have t15:(u.k==15)=false:=aE zo;have t16:(u.k==16)=false:=aE zo;have t11:(u.k==11)=false:=aE zo;have t2:(u.k==2)=false:=aE zo;have t3:(u.k==3)=false:=aE zo;have t5:(u.k==5)=false:=aE zo;have t10:(u.k==10)=false:=aE zo;have t4:(u.k==4)=false:=aE zo;have t6:(u.k==6)=false:=aE zo;have t9:(u.k==9)=false:=aE zo;have t8:(u.k==8)=false:=aE zo;have t7:(u.k==7)=true:=ee h;have I:=hu.cap;have hints:=hu.ints;have ae:Up p w ((w.alloc (Xt u a c)).alloc (.cells #[.int .i64 q.d,.bool false,.bool q.t] 57)):=((Up.refl hw).alloc _).alloc _;have hT:=zh (pM (len:=D.len) (q:=q) (u:=u) zo);clear h;obtain⟨x,f⟩:∃x,x=cj u.m (u.es.length+1):=⟨_,rfl⟩
 have g:=fun W=>gH (jW u.m (u.es.length+1) W) f.symm;have i:∀W,KW p W→Xk 84 #[Xd D dc,.slice a u.es.length c,.agg #[.int .i64 q.d,.bool false,.bool q.t]] W (RB (u.es.all fun e=>aj D.len e q.behind .type) W):=fun W J=>jl p D dc u.es q.behind a c W H hu.list zo J;clear H;cases x
 ·have hF:Hid (false=aj D.len u q .type):=by rw[hT.out,←f];simp[Hid]
  clear hT i f;go_enter func41,ntmps41;go_wp2_with fail
  refine(g _).mono ?_;rintro r s ⟨rfl,rfl⟩;clear g;go_wp2_with fail
  go_ret;exact⟨_,rfl,hF,ae.up⟩
 have E:=f;simp[cj]at E;cases y:u.v
 ·simp only[y]at ae
  have hF:Hid ((u.es.all fun e=>aj D.len e q.behind .type)=aj D.len u q .type):=by rw[hT.out];simp[Hid,y,←f]
  rw[←hF.out];clear hT hF f;go_enter func41,ntmps41;go_wp2_with fail
  refine(g _).mono ?_;rintro r s ⟨rfl,rfl⟩;clear g;go_wp2_with fail
  refine(i _ ae.kw).mono ?_;rintro r s ⟨b,rfl,F,aa⟩;have j:=ae.up.trans (aa.mono ae.up.size);clear i;go_wp2_with fail
  go_ret;exact⟨_,rfl,F,j⟩
 simp only[y]at ae;by_cases hm:0<u.m
 ·have m1:decide ((0:Int)<u.m)=true:=by simp[hm]
  have B:(u.m.toNat- 1)<u.es.length:=zo;obtain⟨b,o,rfl⟩:=hu.list.bg zo;obtain⟨a2,c2,l,G⟩:=hu.list.get (u.m.toNat- 1) B;obtain⟨C,n⟩:∃C,C=u.es[(u.m.toNat- 1)]'B:=⟨_,rfl⟩
  rw[←n]at l;have A:u.es.getD (u.m.toNat- 1) cC=C:=by rw[n,List.getD,List.getElem?_eq_getElem B];rfl
  rw[A]at hT;have g0:=(l.world hw).1;have K:=zb g0;simp only at K;have i1:(0:Int)≤u.m- 1:=zo;have i2:u.m- 1<u.es.length:=zo;clear A n G l B;by_cases z:C.k=4
  ·have L:=ee z
   have hF:Hid ((u.es.all fun e=>aj D.len e q.behind .type)=aj D.len u q .type):=by rw[hT.out];simp[Hid,y,hm,←f,z]
   rw[←hF.out];clear hT hF f z;go_enter func41,ntmps41;go_wp2_with fail
   refine(g _).mono ?_;rintro r s ⟨rfl,rfl⟩;clear g;go_wp2_with fail
   refine(i _ ae.kw).mono ?_;rintro r s ⟨b,rfl,F,aa⟩;have j:=ae.up.trans (aa.mono ae.up.size);clear i;go_wp2_with fail
   go_ret;exact⟨_,rfl,F,j⟩
  ·have L:=aE z
   have hF:Hid (false=aj D.len u q .type):=by rw[hT.out];simp[Hid,y,z]
   clear hT f z i;go_enter func41,ntmps41;go_wp2_with fail
   refine(g _).mono ?_;rintro r s ⟨rfl,rfl⟩;clear g;go_wp2_with fail
   go_ret;exact⟨_,rfl,hF,ae.up⟩
 ·have m1:decide ((0:Int)<u.m)=false:=zp
  have hF:Hid (false=aj D.len u q .type):=by rw[hT.out];simp[Hid,y,hm]
  clear hT f i;go_enter func41,ntmps41;go_wp2_with fail
  refine(g _).mono ?_;rintro r s ⟨rfl,rfl⟩;clear g;go_wp2_with fail
  go_ret;exact⟨_,rfl,hF,ae.up⟩
theorem pO(l:List U):fm l=true↔(∀e∈l,aR e.nm=true)∧(l.map fun e=>e.nm.toList).Nodup:=by
 unfold fm;rw[Bool.and_eq_true,decide_eq_true_iff,decide_eq_true_iff]
theorem ny{l:List U}{k:Nat}(hk:k<l.length):l.take (k+1)=l.take k++ [l[k]]:=by
 rw[List.take_succ_eq_append_getElem hk]
theorem sC{l:List U}(k:Nat)(h:fm l=true):fm (l.take k)=true:=by
 rw[pO]at*;refine⟨fun e he=>h.1 e (List.mem_of_mem_take he),?_⟩;rw[List.map_take];exact h.2.sublist (List.take_sublist _ _)
theorem yQ{l:List U}{k:Nat}(hk:k<l.length):fm (l.take (k+1))=true↔fm (l.take k)=true∧aR l[k].nm=true∧(l.take k).any (fun x=>decide (x.nm.toList=l[k].nm.toList))=false:=by
 rw[pO,pO,ny hk,List.map_append,List.nodup_append];simp only[List.mem_append,List.mem_singleton,List.map_cons,List.map_nil,List.any_eq_false,decide_eq_true_eq,List.mem_map];constructor
 ·rintro⟨h1,a,_,b⟩
  refine⟨⟨fun e he=>h1 e (.inl he),a⟩,h1 _ (.inr rfl),fun x c he=>b _ ⟨x,c,rfl⟩ _ rfl he⟩
 ·rintro⟨⟨h1,a⟩,b,d⟩
  refine⟨?_,a,List.nodup_cons.2 ⟨by simp,List.nodup_nil⟩,?_⟩
  ·rintro e (he|rfl)
   ·exact h1 e he
   ·exact b
  ·rintro _ ⟨x,c,rfl⟩ _ rfl
   exact d x c
theorem yR(p:Pm)(D:Dl)(dc:Nat)(u:U)(q:Pc)(a:Option Addr)(c:Nat)(w:World)(h:u.k=5)(N:∀e∈u.es,dg p D dc e)(hu:ai p D u a c)(hw:KW p w):
 Xk 41 #[Xd D dc,Xt u a c,Xq q] w (RB (aj D.len u q .type) w):=by
 have t1:(u.k==1)=false:=aE zo;have t14:(u.k==14)=false:=aE zo;have t15:(u.k==15)=false:=aE zo;have t16:(u.k==16)=false:=aE zo;have t11:(u.k==11)=false:=aE zo;have t2:(u.k==2)=false:=aE zo;have t3:(u.k==3)=false:=aE zo;have t5:(u.k==5)=true:=ee h;have O:=hu.cap;have ae:Up p w ((w.alloc (Xt u a c)).alloc (Xq q)):=((Up.refl hw).alloc _).alloc _;obtain⟨r,hr⟩:∃r,r=aj D.len u q .type:=⟨_,rfl⟩
 have hT:=zh (hr.trans (pJ (len:=D.len) (q:=q) h));rw[←hr];clear h hr;have P:=zh fun W (E:KW p W)=>jl p D dc u.es q a c W N hu.list zo E;clear N;have T:∀(fn:Fn)(first cap:Array Value)(w:World),(Instr.makeFunc fn first cap).run Tryz.prog w= .ok (.func fn first cap) w:=fun _ _ _ _=>rfl;have V:=zh (show ∀args w,(callFunc 85 args).run Tryz.prog w= .ok (.enter 85 args) w from dG func85 zk rfl);go_enter func41,ntmps41;go_wp2_with fail
 go_loopw [80] (fun i wr=> ∃k:Nat,k≤u.es.length∧i= .int .i64 k∧fm (u.es.take k)=true∧Up p w wr∧
  (Xl wr w u a c)∧(Xc wr (w+1) 0 (.int .i64 q.d)∧Xc wr (w+1) 1 (.bool q.v)∧Xc wr (w+1) 2 (.bool q.t))) (fun i _=>u.es.length- (intOf i).toNat)
 case atStart=>
  refine⟨0,Nat.zero_le _,rfl,rfl,ae,?_⟩;repeat' apply And.intro
  all_goals simp[go_sem]
 case round=>
  obtain⟨k,hk,rfl,Q,n,⟨X,l1,l2,l3,l4,l5,l6⟩,⟨Y,q1,q2⟩⟩:=hrel;have F:=zb Y;simp only at F;have G:=zb X;simp only at G;have y:=zh Q;clear Q;by_cases z:k<u.es.length
  ·have A:(k:Int)<u.es.length:=zo
   obtain⟨b,o,rfl⟩:=hu.list.bg zo;obtain⟨a',c',h7,g⟩:=hu.list.get k z;obtain⟨e,he⟩:∃e,e=u.es[k]:=⟨_,rfl⟩
   have C:=zh (yQ z);rw[←he]at h7 g C;obtain⟨g0,g1,g2,g3,g4,g5,g6⟩:=h7.world n.kw;have R:=n.kw.lt h7.1;clear he;have f:=n.alloc (Xt e a' c');have I:=zh fun W (E:KW p W) lb H=>fZ k p D (u.es.take k) zp (Xa b o) c 85 lb (fun x=>decide (x.nm.toList=e.nm.toList)) W E (hu.list.take k) zp V.out H;cases s:aR e.nm
   ·have B:=fun W=>gH (lO e.nm W (by have:=g.names;omega)) s
    have hF:Hid (false=r):=by
     have h1:fm u.es≠true:=fun h=>by
      have:=(C.out.1 (sC (k+1) h)).2.1;rw[s]at this;cases this
     simp only[Bool.not_eq_true]at h1;rw[hT.out,h1];simp[Hid]
    clear s I;go_wp2_with fail
    refine(B _).mono ?_;rintro J K ⟨rfl,rfl⟩;clear B;go_wp2_with fail
    go_ret;exact⟨_,rfl,hF,f.up⟩
   ·have B:=fun W=>gH (lO e.nm W (by have:=g.names;omega)) s
    have L:=zh s;clear s;go_wp2_with fail
    refine(B _).mono ?_;rintro J K ⟨rfl,rfl⟩;clear B;go_wp2_with fail
    refine(I.out _ f.kw _ ?_).mono ?_
    ·intro i hi W a' c' M Z
     exact yA _ e.nm a' c' W wr.heap.size (cell_kept M (by simp[go_sem]))
    rintro J K ⟨bb,rfl,j,aa⟩;clear I;cases bb
    ·have hH:Hid (fm (u.es.take (k+1))=true):=C.out.2 ⟨y.out,L.out,j.out.symm⟩
     go_wp2_with fail
     go_roundw
     case rel=>
      refine⟨k+1,by omega,by go_num,hH.out,f.step aa,?_⟩;repeat' apply And.intro
      all_goals exact cell_kept aa zq
     case measure=>simp[intOf];omega
    ·have hF:Hid (false=r):=by
      have h1:fm u.es≠true:=fun h=>by
       have:=(C.out.1 (sC (k+1) h)).2.2;rw[←j.out]at this;cases this
      simp only[Bool.not_eq_true]at h1;rw[hT.out,h1];simp[Hid]
     have l:=(f.step aa).up;clear j aa;go_wp2_with fail
     go_ret;exact⟨_,rfl,hF,l⟩
  ·have m:k=u.es.length:=zo
   have A:¬(k:Int)<u.es.length:=zo;have hR:Hid ((u.es.all fun e=>aj D.len e q .type)=r):=by
    have:=y.out;rw[m,List.take_length]at this;rw[hT.out,this];simp[Hid]
   have S:=zh m;clear m;go_wp2_with fail
   refine(P.out _ n.kw).mono ?_;rintro J K ⟨b,rfl,R,aa⟩;have l:=n.up.trans (aa.mono n.up.size);clear P;go_wp2_with fail
   go_ret;exact⟨_,rfl,R.out.trans hR.out,l⟩
theorem pP(p:Pm)(D:Dl)(dc:Nat):∀u,dg p D dc u:=fun u=>by
 induction u using U.bc with
 |_ u ih=>
  intro q a c w hu hw;have b:∀e∈u.es,dg p D dc e:=fun e he=>ih e (U.ar he);by_cases h:u.k=1∨(u.k=14∨u.k=15∨u.k=16)∨u.k=11∨(u.k=2∨u.k=3)∨u.k=5∨u.k=10∨(u.k=4∨u.k=6∨u.k=9)∨u.k=8∨u.k=7
  ·rcases h with h|(h|h|h)|h|(h|h)|h|h|(h|h|h)|h|h
   ·exact yC p D dc u q a c w h hw
   ·exact yD p D dc u q a c w h hw
   ·exact yE p D dc u q a c w h hw
   ·exact yF p D dc u q a c w h hw
   ·exact yI p D dc u q a c w h hw
   ·exact yJ p D dc u q a c w h b hu hw
   ·exact yK p D dc u q a c w h b hu hw
   ·exact yR p D dc u q a c w h b hu hw
   ·exact yG p D dc u q a c w h ih hu hw
   ·exact yL p D dc u q a c w h b hu hw
   ·exact yM p D dc u q a c w h b hu hw
   ·exact yN p D dc u q a c w h b hu hw
   ·exact yO p D dc u q a c w h b hu hw
   ·exact yP p D dc u q a c w h b hu hw
  ·exact yH p D dc u q a c w h hw
theorem yS(p:Pm)(D:Dl)(es:List br)(a:Option Addr)(c g:Nat)(lb:Array Value)(P:br→Bool)(w:World)(hw:KW p w)(s:cM p D es a)(I:(es.length:Int)≤1048576)
 (J:∀args w,(callFunc g args).run Tryz.prog w= .ok (.enter g args) w)
 (H:∀i(h:i<es.length) W a' c',Below w w W→ai p D es[i].sig a' c'→Xk g (#[(Xm es[i] a' c':Value)]++lb) W (RB (P es[i]) W)):
 Xk 137 #[.slice a es.length c,.func (.func g) #[] lb] w fun e r=>(∃k:Nat,e= .returned (.int .i64 k)∧∃h:k<es.length,P es[k]=true)∧Below w w r∨(e= .returned (.int .i64 (-1))∧∀x∈es,P x=false)∧Below w w r:=by
 have E:=zh H;clear H;go_enter func137,ntmps137;go_wp2_with fail
 go_loopw [8] (fun t wr=> ∃k:Nat,k≤es.length∧t= .int .i64 k∧(∀x∈es.take k,P x=false)∧Below w w wr) (fun t _=>es.length- (intOf t).toNat)
 case atStart=>exact⟨0,Nat.zero_le _,rfl,by simp,Below.refl _ _⟩
 case round=>
  obtain⟨k,hk,rfl,j,d⟩:=hrel;by_cases f:k<es.length
  ·obtain⟨b,o,rfl⟩:=s.bg zo
   obtain⟨u,z,F,a',c',h7,hu⟩:=s.get k f;have G:=E.out k f wr a' c' d hu;have l:=hw.grown d;generalize A:es[k]=x at*;obtain⟨g0,g1,g2,g3,g4,g5,g6⟩:(Xc wr b (o+k*9+2) (.int .i64 x.sig.k)∧Xc wr b (o+k*9+3) (.int .i64 x.sig.n)∧Xc wr b (o+k*9+4) (.int .i64 x.sig.m)∧Xc wr b (o+k*9+5) (.bool x.sig.v)∧Xc wr b (o+k*9+6) (.string x.sig.nm)∧Xc wr b (o+k*9+7) (.string x.sig.tg)∧Xc wr b (o+k*9+8) (.slice a' x.sig.es.length c')):=h7.world l;have gn:=l _ _ _ u;have K:=l _ _ _ z;clear h7 u z;go_wp2_with fail
   refine G.mono ?_;rintro e r ⟨bb,rfl,B,C⟩;cases bb<;>go_wp2_with fail
   ·go_roundw
    case rel=>
     refine⟨k+1,by omega,by go_num,?_,d.trans (C.mono d.size)⟩;intro y q;rw[List.take_succ_eq_append_getElem f,List.mem_append,List.mem_singleton,A]at q;rcases q with q|rfl
     ·exact j y q
     ·exact B.out.symm
    case measure=>simp[intOf];omega
   ·go_ret
    exact .inl ⟨⟨k,rfl,f,by rw[A];exact B.out.symm⟩,d.trans (C.mono d.size)⟩
  ·go_wp2_with fail
   go_ret;rw[List.take_of_length_le zo]at j;exact .inr ⟨⟨rfl,j⟩,d⟩
theorem sD(n:Nat)(p:Pm)(D:Dl)(es:List br)(j:n=es.length)(a:Option Addr)(c g:Nat)(lb:Array Value)(P:br→Bool)(w:World)(hw:KW p w)(l:cM p D es a)(m:(es.length:Int)≤1048576)
 (o:∀args w,(callFunc g args).run Tryz.prog w= .ok (.enter g args) w)
 (H:∀i(h:i<es.length) W a' c',Below w w W→ai p D es[i].sig a' c'→Xk g (#[(Xm es[i] a' c':Value)]++lb) W (RB (P es[i]) W)):
 Xk 80 #[.slice a n c,.func (.func g) #[] lb] w (RB (es.any P) w):=by
 subst j;have q:=zh (yS p D es a c g lb P w hw l m o H);clear H;go_enter func80,ntmps80;go_wp2_with fail
 refine q.out.mono ?_;rintro e s (⟨⟨k,rfl,hk,b⟩,d⟩|⟨⟨rfl,b⟩,d⟩)
 ·have f:Hid (true=es.any P):=(List.any_eq_true.2 ⟨_,zm hk,b⟩).symm
  clear b;go_wp2_with fail
  go_ret;exact⟨_,rfl,f,d⟩
 ·have f:Hid (false=es.any P):=(List.any_eq_false.2 fun x r=>by simp[b x r]).symm
  clear b;go_wp2_with fail
  go_ret;exact⟨_,rfl,f,d⟩
def fp(u:U):Bool:=u.k !=6&&(u.k !=1||u.n !=17)
theorem sE(u:U)(a:Option Addr)(c:Nat)(w:World):
 Xk 70 #[Xt u a c] w (RB (fp u) w):=by
 have d:=(Below.refl w.heap.size w).alloc zl (Xt u a c);by_cases b:u.k=6
 ·have e:(u.k !=6)=false:=by simp[b]
  have hF:Hid (false=fp u):=by simp[Hid,fp,b]
  clear b;go_enter func70,ntmps70;go_wp2_with fail
  go_ret;exact⟨_,rfl,hF,d⟩
 ·have e:(u.k !=6)=true:=by simp[b]
  by_cases h1:u.k=1
  ·have f:(u.k !=1)=false:=by simp[h1]
   have hF:Hid ((u.n !=17)=fp u):=by simp[Hid,fp,b,h1]
   clear b h1;go_enter func70,ntmps70;go_wp2_with fail
   go_ret;exact⟨_,rfl,hF,d⟩
  ·have f:(u.k !=1)=true:=by simp[h1]
   have hF:Hid (true=fp u):=by simp[Hid,fp,b,h1]
   clear b h1;go_enter func70,ntmps70;go_wp2_with fail
   go_ret;exact⟨_,rfl,hF,d⟩
theorem yT(m:br)(s:ByteArray)(a:Option Addr)(c:Nat)(w:World)(B:Nat)(b:Xc w B 0 (.string s)):
 Xk 77 #[Xm m a c,Xp B] w (RB (decide (m.nm.toList=s.toList)) w):=by
 have b1:=zb b;simp only at b1;have d:Hid ((m.nm.toList==s.toList)=decide (m.nm.toList=s.toList)):=by simp only[Hid];rw[Bool.eq_iff_iff];simp
 go_enter func77,ntmps77;go_wp2_with fail
 go_ret;exact⟨_,rfl,d,(Below.refl w.heap.size w).alloc zl _⟩
theorem yU(u:U)(k:Int)(s:ByteArray)(a:Option Addr)(c:Nat)(w:World)(B d:Nat)(h1:Xc w B 0 (.int .i64 k))(e:Xc w d 0 (.string s)):
 Xk 78 #[Xt u a c,Xp B,Xp d] w (RB (k==5&&decide (u.nm.toList=s.toList)) w):=by
 have b1:=zb e;simp only at b1;have f:=zb h1;simp only at f;cases g:k==5
 ·have b:Hid (false=(false&&decide (u.nm.toList=s.toList))):=by simp[Hid]
  go_enter func78,ntmps78;go_wp2_with fail
  go_ret;exact⟨_,rfl,b,(Below.refl w.heap.size w).alloc zl _⟩
 ·have b:Hid ((u.nm.toList==s.toList)=(true&&decide (u.nm.toList=s.toList))):=by simp only[Hid];rw[Bool.eq_iff_iff];simp
  go_enter func78,ntmps78;go_wp2_with fail
  go_ret;exact⟨_,rfl,b,(Below.refl w.heap.size w).alloc zl _⟩
end Go.Proofs.YtkochlhejabdcaaGreatDoor
