import Derived.Test.YtkochlhejabdcaaGreatDoorYai
set_option maxRecDepth 100000
set_option maxHeartbeats 8000000
set_option linter.all false
namespace Go.Proofs.YtkochlhejabdcaaGreatDoor
open Go.RowKit TS Tryz
theorem sw(l:List U):eJ l=true↔∀i(h:i<l.length),l[i].k=7∧aR l[i].nm=true∧(∀(a:0<i),Go.Op.bytesLess (l[i- 1]'zo).nm.toList l[i].nm.toList=true):=by
 induction l with
 |nil=>simp[eJ]
 |cons e r ih=>
  simp only[eJ,Bool.and_eq_true,beq_iff_eq,ih];constructor
  ·rintro⟨⟨⟨h7,b⟩,c⟩,hr⟩ i hi
   cases i with
   |zero=>exact⟨h7,b,fun h=>by omega⟩
   |succ i=>
    have:=hr i (by simpa using hi);refine⟨this.1,this.2.1,fun _=> ?_⟩;cases i with
    |zero=>
     cases r with
     |nil=>simp at hi
     |cons d f=>simpa using c
    |succ i=>simpa using this.2.2 zo
  ·intro h
   have a:=h 0 zs;refine⟨⟨⟨a.1,a.2.1⟩,?_⟩,fun i hi=> ?_⟩
   ·cases r with
    |nil=>rfl
    |cons d f=>exact(h 1 zs).2.2 zo
   ·have:=h (i+1) (by simpa using hi)
    refine⟨this.1,this.2.1,fun a=> ?_⟩;have g:=this.2.2 zo;obtain⟨j,rfl⟩:∃j,i=j+1:=⟨i- 1,by omega⟩
    simpa using g
def fo(len:Nat)(u:U)(q:Pc):Bool:=
 cj u.m (u.es.length+1)&&decide (u.es.length- u.m≤4)&&eJ (u.es.take u.m.toNat)&&((u.es.take u.m.toNat).all fun e=>aj len e q.behind .type)&&((u.es.drop u.m.toNat).all fun e=>aj len e q.inside .elem)
theorem yy(p:Pm)(D:Dl)(dc:Nat)(u:U)(q:Pc)(a:Option Addr)(c:Nat)(w:World)(k:dg p D dc u)(f:∀e∈u.es,dg p D dc e∧∀m∈e.es,dg p D dc m)(hu:ai p D u a c)(hw:KW p w)(l h:Nat)
 (h1:Xc w l 0 (Xd D dc))(n:Xc w h 0 (.int .i64 q.d))(x:Xc w h 1 (.bool q.v))(y:Xc w h 2 (.bool q.t)):
 Xk 139 #[Xt u a c,Xp l,Xp h] w (RB (!aj D.len u q .elem) w):=by
 have b1:=zb h1;have o:=zb n;simp only at b1 o;have hT:=zh fun W r=>yx p D dc u q a c W k f hu r;clear k f;go_enter func139,ntmps139;go_wp2_with fail
 refine(hT.out _ (hw.alloc _)).mono ?_;rintro z s ⟨b,rfl,i,aa⟩;have g:Below w w s:=Below.trans ((Below.refl w.heap.size w).alloc zl _) (aa.mono zs);cases b
 ·have j:Hid (true= !aj D.len u q .elem):=by have:=i.out;simp[Hid,←this]
  clear i aa;go_wp2_with fail
  go_ret;exact⟨_,rfl,j,g⟩
 ·have j:Hid (false= !aj D.len u q .elem):=by have:=i.out;simp[Hid,←this]
  clear i aa;go_wp2_with fail
  go_ret;exact⟨_,rfl,j,g⟩
theorem pG{len:Nat}{u:U}{q:Pc}{k:Nat}(h:k<u.m.toNat)(hk:k<u.es.length)(bad:u.es[k].k≠7∨aR u.es[k].nm=false∨∃a:0<k,Go.Op.bytesLess (u.es[k- 1]'zo).nm.toList u.es[k].nm.toList=false):fo len u q=false:=by
 cases c:fo len u q
 ·rfl
 ·simp only[fo,Bool.and_eq_true]at c
  have:=(sw _).1 c.1.1.2 k zp;simp only[List.getElem_take]at this;rcases bad with b|b|⟨a,b⟩
  ·exact absurd this.1 b
  ·rw[b]at this;exact absurd this.2.1 zs
  ·have d:=this.2.2 a;rw[b]at d;cases d
theorem sy{len:Nat}{u:U}{q:Pc}{k:Nat}(h:k<u.m.toNat)(hk:k<u.es.length)(bad:aj len u.es[k] q.behind .type=false):fo len u q=false:=by
 cases a:fo len u q
 ·rfl
 ·simp only[fo,Bool.and_eq_true]at a
  have:=List.all_eq_true.1 a.1.2 u.es[k] (by rw[List.mem_take_iff_getElem];exact⟨k,by omega,rfl⟩);rw[bad]at this;cases this
theorem sA{l:List U}{k:Nat}(hk:k<l.length)(h:eJ (l.take k)=true)(h7:l[k].k=7)(a:aR l[k].nm=true)(b:∀d:0<k,Go.Op.bytesLess (l[k- 1]'zo).nm.toList l[k].nm.toList=true):eJ (l.take (k+1))=true:=by
 rw[sw]at h⊢;intro i hi;have c:i<k+1:=by simp at hi;omega
 simp only[List.getElem_take];by_cases e:i=k
 ·subst e;exact⟨h7,a,b⟩
 ·have:=h i zp
  simpa only[List.getElem_take]using this
theorem sB{l:List U}{k:Nat}(hk:k<l.length){f:U→Bool}(h:(l.take k).all f=true)(a:f l[k]=true):(l.take (k+1)).all f=true:=by
 rw[List.take_succ_eq_append_getElem hk,List.all_append,h];simp[a]
theorem yz(p:Pm)(D:Dl)(dc:Nat)(u:U)(q:Pc)(a:Option Addr)(c:Nat)(w:World)(hC:∀u',u'.sz<u.sz→dg p D dc u')(hu:ai p D u a c)(hw:KW p w):
 Xk 86 #[Xd D dc,Xt u a c,Xq q] w (RB (fo D.len u q) w):=by
 obtain⟨r,hr⟩:∃r,r=fo D.len u q:=⟨_,rfl⟩
 rw[←hr];have s:=zh hr;clear hr;have P1:=hu.cap;have hints:=hu.ints;have y:=fun W=>jW u.m (u.es.length+1) W;by_cases hm:0≤u.m∧u.m≤u.es.length
 ·obtain⟨P6,P7⟩:=hm
  have P:=fun W=>gH (b:=true) (y W) zp;by_cases h4:u.es.length- u.m≤4
  ·have PR:¬4<u.es.length- u.m:=zo
   have PS:u.m.toNat≤u.es.length:=zo;have P8:max u.m 0=u.m:=zo;clear h4 y;go_enter func86,ntmps86;go_wp2_with fail
   refine(P _).mono ?_;rintro x A ⟨rfl,rfl⟩;clear P;go_wp2_with fail
   go_loopw [33] (fun i wr=> ∃k:Nat,k≤u.m.toNat∧i= .int .i64 k∧eJ (u.es.take k)=true∧((u.es.take k).all fun e=>aj D.len e q.behind .type)=true∧Up p w wr∧
    Xc wr w 0 (Xd D dc)∧(Xl wr (w+1) u a c)∧(Xc wr (w+1+1) 0 (.int .i64 q.d)∧Xc wr (w+1+1) 1 (.bool false)∧Xc wr (w+1+1) 2 (.bool q.t))∧wr.frozen? (Xa (w+1+1) 1)=false∧wr.frozen? (Xa (w+1+1) 2)=false) (fun i _=>u.m.toNat- (intOf i).toNat)
   case atStart=>
    refine⟨0,Nat.zero_le _,rfl,rfl,rfl,((((Up.refl hw).alloc _).alloc _).alloc _),?_⟩;repeat' apply And.intro
    all_goals simp[go_sem]
   case round=>
    obtain⟨k,hk,rfl,hh,hp,hU,c0,⟨l0,l1,l2,l3,l4,l5,l6⟩,⟨q0,q1,q2⟩,z1,z2⟩:=hrel;have PT:=zb q0;simp only at PT;have PU:=zb c0;simp only at PU;have Q:=zh hh;have R:=zh hp;clear hh hp;by_cases C:k<u.m.toNat
    ·have PH:(k:Int)<u.m:=zo
     have v:k<u.es.length:=zo;obtain⟨b,o,rfl⟩:=hu.list.bg zo;obtain⟨a',c',h7,z⟩:=hu.list.get k v;have n:=hC u.es[k] (U.ar (zm _)) q.behind a' c';obtain⟨e,he⟩:∃e,e=u.es[k]:=⟨_,rfl⟩
     rw[←he]at h7 z n;obtain⟨g0,g1,g2,g3,g4,g5,g6⟩:=h7.world hU.kw;have L:=hU.kw.lt h7.1;have g:=zh he;clear he;obtain⟨x0,x1,x2,x3,x4,x5,x6⟩:=dE wr e a' c' 25;have ae:=hU.alloc (Xt e a' c');by_cases B:e.k=7
     ·have k7:(e.k !=7)=false:=by simp[B]
      have M:=zh B;clear B;cases hn:aR e.nm
      ·have S:=fun W=>sk (lO e.nm W (by have:=z.names;omega)) hn
       have hF:Hid (false=r):=(s.out.trans (pG C v (.inr (.inl (by rw[←g.out];exact hn))))).symm;clear hn n;go_wp2_with fail
       go_quiet ((go_at_call 79;exact Calls.quiet_of_same (S _)))
       go_wp2_with fail
       go_ret;exact⟨_,rfl,hF,(ae.drewN _).up⟩
      ·have S:=fun W=>sk (lO e.nm W (by have:=z.names;omega)) hn
       have PI:=zh hn;clear hn;rcases Nat.eq_zero_or_pos k with E|E
       ·have hz:decide ((0:Int)<k)=false:=zp
        have P9:decide (0<k)=false:=zp;have F:=zh E;clear E;cases h:aj D.len e q.behind .type
        ·have J:=fun W y=>aT (n W z y) h
         have hF:Hid (false=r):=(s.out.trans (sy C v (by rw[←g.out];exact h))).symm;clear h n;go_wp2_with fail
         refine oR (fun W=>(Xl W wr e a' c')∧Xc W (w+1) 6 (.slice (Xa b o) u.es.length c)∧
          (Xc W w 0 (Xd D dc))∧(Xc W (w+1+1) 0 (.int .i64 q.d)∧Xc W (w+1+1) 1 (.bool false)∧Xc W (w+1+1) 2 (.bool q.t))∧Up p w W)
          [(0,true),(1,true),(2,true),(3,true),(4,true),(5,true),(6,false),(7,true),(8,true),(9,true),(10,true),(11,true),(12,true),(13,true),(14,true),(15,true),(16,true),(17,true),(18,true),(19,true),(20,true),(21,true),(22,true),(23,true),(24,true),(25,true),(26,true),(27,true),(28,true),(29,false),(30,true),(31,true)] oK (fun f=> ?_)
         repeat(first|(refine oS ?_;try simp only[Act.put,oa,ob,oc])|(refine oF f ?_;try simp only[Act.put,oa,ob,oc])|(refine oL fun K l=> ?_;go_simp;first|(go_at_call 79;refine(S _).mono ?_;rintro x A ⟨rfl,rfl⟩;simp only[];refine l _ _ f (fun f=> ?_);clear l K;try simp only[Act.put,oa,ob,oc])|(go_at_call 41;refine(J _ (Up.kw (by first|assumption|exact ae.drew))).mono ?_;rintro x A ⟨rfl,aa⟩;(try simp only[]);refine l _ _ oK fun f=> ?_;clear l K;try simp only[Act.put,oa,ob,oc])))
         refine bZ ?_;go_wp2_with fail
         go_ret;exact⟨_,rfl,hF,(ae.drew.step aa).up⟩
        ·have J:=fun W y=>aT (n W z y) h
         have hA:Hid (((u.es.take (k+1)).all fun e=>aj D.len e q.behind .type)=true):=sB v R.out (by rw[←g.out];exact h);have hH:Hid (eJ (u.es.take (k+1))=true):=sA v Q.out (by rw[←g.out];exact M.out) (by rw[←g.out];exact PI.out) (fun h0=>by have:=F.out;omega);clear h n;go_wp2_with fail
         refine oR (fun W=>(Xl W wr e a' c')∧Xc W (w+1) 6 (.slice (Xa b o) u.es.length c)∧
          (Xc W w 0 (Xd D dc))∧(Xc W (w+1+1) 0 (.int .i64 q.d)∧Xc W (w+1+1) 1 (.bool false)∧Xc W (w+1+1) 2 (.bool q.t))∧Up p w W)
          [(0,true),(1,true),(2,true),(3,true),(4,true),(5,true),(6,false),(7,true),(8,true),(9,true),(10,true),(11,true),(12,true),(13,true),(14,true),(15,true),(16,true),(17,true),(18,true),(19,true),(20,true),(21,true),(22,true),(23,true),(24,true),(25,true),(26,true),(27,true),(28,true),(29,false),(30,true),(31,true)] oK (fun f=> ?_)
         repeat(first|(refine oS ?_;try simp only[Act.put,oa,ob,oc])|(refine oF f ?_;try simp only[Act.put,oa,ob,oc])|(refine oL fun K l=> ?_;go_simp;first|(go_at_call 79;refine(S _).mono ?_;rintro x A ⟨rfl,rfl⟩;simp only[];refine l _ _ f (fun f=> ?_);clear l K;try simp only[Act.put,oa,ob,oc])|(go_at_call 41;refine(J _ (Up.kw (by first|assumption|exact ae.drew))).mono ?_;rintro x A ⟨rfl,aa⟩;(try simp only[]);refine l _ _ oK fun f=> ?_;clear l K;try simp only[Act.put,oa,ob,oc])))
         refine bZ ?_;go_wp2_with fail
         go_roundw
         case rel=>
          refine⟨k+1,by omega,by go_num,hH.out,hA.out,ae.drew.step aa,?_⟩;repeat' apply And.intro
          all_goals first|exact cell_kept aa zq|exact frozen_kept aa zp (by rw[World.frozen?_drew,World.frozen?_alloc_old _ _ _ zp];assumption)
         case measure=>simp[intOf];omega
       ·have PJ:k- 1<u.es.length:=zo
        obtain⟨a2,c2,PK,PW⟩:=hu.list.get (k- 1) PJ;clear PW;obtain⟨N,T⟩:∃N,N=u.es[k- 1]'PJ:=⟨_,rfl⟩
        rw[←T]at PK;have O:=zh T;clear T;have p4:=(PK.world hU.kw).2.2.2.2.1;have F:=zh E;obtain⟨j,hj⟩:∃j,j=k- 1:=⟨_,rfl⟩
        rw[←hj]at p4;have hz:(0:Int)<k:=zo;have P_:decide ((0:Int)<k)=true:=zp;have Qa:decide (0<k)=true:=zp;have P2:(0:Int)≤j:=zo;have P3:(j:Int)<u.es.length:=zo;have P4:j<u.es.length:=zo;have Qb:IntKind.i64.wrap ((k:Int)- 1)=j:=by rw[IntWalk.i64_in _ zo];omega
        have Qc:=zh hj;clear hj E;cases ho:Go.Op.bytesLess N.nm.toList e.nm.toList
        ·have hF:Hid (false=r):=(s.out.trans (pG C v (.inr (.inr ⟨F.out,by rw[←g.out,←O.out];exact ho⟩)))).symm
         have J:True:=trivial;clear n;go_wp2_with fail
         refine oR (fun W=>(Xl W wr e a' c')∧Xc W (w+1) 6 (.slice (Xa b o) u.es.length c)∧
          (Xc W w 0 (Xd D dc))∧(Xc W (w+1+1) 0 (.int .i64 q.d)∧Xc W (w+1+1) 1 (.bool false)∧Xc W (w+1+1) 2 (.bool q.t))∧Xc W b (o+j*7+4) (.string N.nm)∧Up p w W)
          [(0,true),(1,true),(2,true),(3,true),(4,true),(5,true),(6,false),(7,true),(8,true),(9,true),(10,true),(11,true),(12,true),(13,true),(14,true),(15,true),(16,true),(17,true),(18,true),(19,true),(20,true),(21,true),(22,true),(23,true),(24,true),(25,true),(26,true),(27,true),(28,true),(29,false),(30,true),(31,true)] oK (fun f=> ?_)
         repeat(first|(refine oS ?_;try simp only[Act.put,oa,ob,oc])|(refine oF f ?_;try simp only[Act.put,oa,ob,oc])|(refine oL fun K l=> ?_;go_simp;first|(go_at_call 79;refine(S _).mono ?_;rintro x A ⟨rfl,rfl⟩;simp only[];refine l _ _ f (fun f=> ?_);clear l K;try simp only[Act.put,oa,ob,oc])|(go_at_call 41;refine(J _ (Up.kw (by first|assumption|exact ae.drew))).mono ?_;rintro x A ⟨rfl,aa⟩;(try simp only[]);refine l _ _ oK fun f=> ?_;clear l K;try simp only[Act.put,oa,ob,oc])))
         refine bZ ?_;go_wp2_with fail
         go_ret;exact⟨_,rfl,hF,(ae.drew).up⟩
        ·have PX:=zh ho
         cases h:aj D.len e q.behind .type
         ·have J:=fun W y=>aT (n W z y) h
          have hF:Hid (false=r):=(s.out.trans (sy C v (by rw[←g.out];exact h))).symm;clear h n;go_wp2_with fail
          refine oR (fun W=>(Xl W wr e a' c')∧Xc W (w+1) 6 (.slice (Xa b o) u.es.length c)∧
           (Xc W w 0 (Xd D dc))∧(Xc W (w+1+1) 0 (.int .i64 q.d)∧Xc W (w+1+1) 1 (.bool false)∧Xc W (w+1+1) 2 (.bool q.t))∧Xc W b (o+j*7+4) (.string N.nm)∧Up p w W)
           [(0,true),(1,true),(2,true),(3,true),(4,true),(5,true),(6,false),(7,true),(8,true),(9,true),(10,true),(11,true),(12,true),(13,true),(14,true),(15,true),(16,true),(17,true),(18,true),(19,true),(20,true),(21,true),(22,true),(23,true),(24,true),(25,true),(26,true),(27,true),(28,true),(29,false),(30,true),(31,true)] oK (fun f=> ?_)
          repeat(first|(refine oS ?_;try simp only[Act.put,oa,ob,oc])|(refine oF f ?_;try simp only[Act.put,oa,ob,oc])|(refine oL fun K l=> ?_;go_simp;first|(go_at_call 79;refine(S _).mono ?_;rintro x A ⟨rfl,rfl⟩;simp only[];refine l _ _ f (fun f=> ?_);clear l K;try simp only[Act.put,oa,ob,oc])|(go_at_call 41;refine(J _ (Up.kw (by first|assumption|exact ae.drew))).mono ?_;rintro x A ⟨rfl,aa⟩;(try simp only[]);refine l _ _ oK fun f=> ?_;clear l K;try simp only[Act.put,oa,ob,oc])))
          refine bZ ?_;go_wp2_with fail
          go_ret;exact⟨_,rfl,hF,(ae.drew.step aa).up⟩
         ·have J:=fun W y=>aT (n W z y) h
          have hA:Hid (((u.es.take (k+1)).all fun e=>aj D.len e q.behind .type)=true):=sB v R.out (by rw[←g.out];exact h);have hH:Hid (eJ (u.es.take (k+1))=true):=sA v Q.out (by rw[←g.out];exact M.out) (by rw[←g.out];exact PI.out) (fun h0=>by rw[←g.out,←O.out];exact PX.out);clear h n;go_wp2_with fail
          refine oR (fun W=>(Xl W wr e a' c')∧Xc W (w+1) 6 (.slice (Xa b o) u.es.length c)∧
           (Xc W w 0 (Xd D dc))∧(Xc W (w+1+1) 0 (.int .i64 q.d)∧Xc W (w+1+1) 1 (.bool false)∧Xc W (w+1+1) 2 (.bool q.t))∧Xc W b (o+j*7+4) (.string N.nm)∧Up p w W)
           [(0,true),(1,true),(2,true),(3,true),(4,true),(5,true),(6,false),(7,true),(8,true),(9,true),(10,true),(11,true),(12,true),(13,true),(14,true),(15,true),(16,true),(17,true),(18,true),(19,true),(20,true),(21,true),(22,true),(23,true),(24,true),(25,true),(26,true),(27,true),(28,true),(29,false),(30,true),(31,true)] oK (fun f=> ?_)
          repeat(first|(refine oS ?_;try simp only[Act.put,oa,ob,oc])|(refine oF f ?_;try simp only[Act.put,oa,ob,oc])|(refine oL fun K l=> ?_;go_simp;first|(go_at_call 79;refine(S _).mono ?_;rintro x A ⟨rfl,rfl⟩;simp only[];refine l _ _ f (fun f=> ?_);clear l K;try simp only[Act.put,oa,ob,oc])|(go_at_call 41;refine(J _ (Up.kw (by first|assumption|exact ae.drew))).mono ?_;rintro x A ⟨rfl,aa⟩;(try simp only[]);refine l _ _ oK fun f=> ?_;clear l K;try simp only[Act.put,oa,ob,oc])))
          refine bZ ?_;go_wp2_with fail
          go_roundw
          case rel=>
           refine⟨k+1,by omega,by go_num,hH.out,hA.out,ae.drew.step aa,?_⟩;repeat' apply And.intro
           all_goals first|exact cell_kept aa zq|exact frozen_kept aa zp (by rw[World.frozen?_drew,World.frozen?_alloc_old _ _ _ zp];assumption)
          case measure=>simp[intOf];omega
     ·have k7:(e.k !=7)=true:=by simp[B]
      have hF:Hid (false=r):=(s.out.trans (pG C v (.inl (by rw[←g.out];exact B)))).symm;clear B;go_wp2_with fail
      go_quiet (fail)
      go_wp2_with fail
      go_ret;exact⟨_,rfl,hF,(ae.drewN _).up⟩
    ·have V:k=u.m.toNat:=zo
     have PH:¬(k:Int)<u.m:=zo;have Qd:∀(fn:Fn)(first cap:Array Value)(w:World),(Instr.makeFunc fn first cap).run Tryz.prog w= .ok (.func fn first cap) w:=fun _ _ _ _=>rfl;have PL:∀e∈u.es.drop u.m.toNat,dg p D dc e∧∀e'∈e.es,dg p D dc e'∧∀X∈e'.es,dg p D dc X:=fun e he=>by
      have h1:=U.ar (List.mem_of_mem_drop he);exact⟨hC e h1,fun e' g=>⟨hC e' (by have:=U.ar g;omega),fun X PM=>hC X (by have:=U.ar g;have:=U.ar PM;omega)⟩⟩
     have Y:=zh fun W (y:KW p W) a2 c2 (hL:aq p D (u.es.drop u.m.toNat) a2) lb H=>fZ (u.es.length- u.m.toNat) p D (u.es.drop u.m.toNat) zs a2 c2 139 lb (fun e=> !aj D.len e q.inside .elem) W y hL zp (dG func139 zk rfl) H;simp only[kL]at Y;have PN:Hid (∀b,(b= !(u.es.drop u.m.toNat).all fun e=>aj D.len e q.inside .elem)→(!b)=r):=fun b L=>by
      subst V;rw[s.out,L,fo,Q.out,R.out];have x:cj u.m (u.es.length+1)=true:=by simp[cj];omega
      have N:decide ((u.es.length:Int)- u.m≤4)=true:=zp;rw[x,N];simp
     have P5:=zh V;clear V;have G:=(hU.up.setCell (p:=(Xa (w+1+1) 1)) zp (.bool true)).setCell (p:=(Xa (w+1+1) 2)) zp (.bool true);have Z:=hw.grown G;by_cases Qe:u.m.toNat<c
     all_goals
      clear hC;have PO:=zh PL;clear PL;go_wp2_with fail
     ·refine(Y.out _ Z _ _ (hu.list.cut _ PS) _ ?_).mono ?_
      ·intro i hi W a' c' I PY
       have PQ:=PO.out _ (zm hi);exact yy p D dc (u.es.drop u.m.toNat)[i] q.inside a' c' W PQ.1 PQ.2 PY (Z.grown I) _ (w.heap.size+1+1) (cell_kept I (by simp[go_sem];assumption)) (cell_kept I (by simp[go_sem];assumption)) (cell_kept I (by simp[go_sem];exact World.cell?_setCell_same _ _ _ q1)) (cell_kept I (World.cell?_setCell_same _ _ _ (u:= .bool q.t) (by simp[go_sem];assumption)))
      rintro x A ⟨b,rfl,L,aa⟩;have hI:=zh (PN.out b L.out);have PG:=G.trans (aa.mono G.size);clear L aa;cases b
      all_goals
       go_wp2_with fail
       go_ret;exact⟨_,rfl,hI,PG⟩
     ·have hE:u.es.drop u.m.toNat= []:=List.drop_eq_nil_of_le zo
      have PZ:aq p D (u.es.drop u.m.toNat) a:=by rw[hE];exact aq.nil
      refine(Y.out _ Z _ _ PZ _ ?_).mono ?_
      ·intro i hi
       rw[hE]at hi;simp at hi
      rintro x A ⟨b,rfl,L,aa⟩;have hI:=zh (PN.out b L.out);have PG:=G.trans (aa.mono G.size);clear L aa;cases b
      all_goals
       go_wp2_with fail
       go_ret;exact⟨_,rfl,hI,PG⟩
  ·have hF:Hid (false=r):=by rw[s.out];simp[Hid,fo,h4]
   have PR:4<u.es.length- u.m:=zo;clear h4 s y;go_enter func86,ntmps86;go_wp2_with fail
   refine(P _).mono ?_;rintro x A ⟨rfl,rfl⟩;go_wp2_with fail
   go_ret;exact⟨_,rfl,hF,(((Below.refl w.heap.size w).alloc zl _).alloc zs _).alloc zp _⟩
 ·have P0:=fun W=>gH (b:=false) (y W) zp
  have hF:Hid (false=r):=by rw[s.out];unfold Hid fo cj;simp;omega
  clear s y;go_enter func86,ntmps86;go_wp2_with fail
  refine(P0 _).mono ?_;rintro x A ⟨rfl,rfl⟩;go_wp2_with fail
  go_ret;exact⟨_,rfl,hF,(((Below.refl w.heap.size w).alloc zl _).alloc zs _).alloc zp _⟩
end Go.Proofs.YtkochlhejabdcaaGreatDoor
