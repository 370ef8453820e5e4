import Derived.Test.YtgbklbbknehefaaGreatDoorYbc
set_option maxRecDepth 100000
set_option maxHeartbeats 8000000
set_option linter.all false
namespace TS
open Go Go.RowKit Go.Sort Go.Proofs.YtgbklbbknehefaaGreatDoor
structure an(p:Pm)(g:Ge)(w:World):Prop where
 kw:KW p w
 pl:∀b o v,p b o=some v→Plain w b
 inj:kH g
 cap:bD w
 done:∀b u,g.G b=some u→p b 0=some (.pointer none)∧cv p g b u
 po:∀i,i<g.len→∃o v,p (g.ob i) o=some v
 cD:∃o v,p g.eo o=some v
 cE:∃o v,p g.co o=some v
theorem an.cC{p:Pm}{g:Ge}{w a:World}(h:an p g w)(k:aq w a):an p g a:=
 ⟨k.kw h.kw,fun b o v c=>k.plain (h.pl b o v c),h.inj,k.cap h.cap,h.done,h.po,h.cD,h.cE⟩
structure Tok(len:Nat)(e:U):Prop where
 vt:Vt len e
 vu:Vt len (under e)
 fl:(bare e).k=11→∃y,(bare e).un= [y]∧y.k≠16
 ni:isIface e=false
end TS
namespace Go.Proofs.YtgbklbbknehefaaGreatDoor
open Go.RowKit TS Go.Sort
theorem kS(len:Nat)(p:Pm)(g:Ge)(u v:U)(x y:Value)(w:World)(f:an p g w)(hu:Vt len u)(h:Vt len v)(b:TS.Node p g u x)(c:TS.Node p g v y):
 Calls Tryz.prog 144 #[x,y] w fun e i=>e= .returned (.bool (aE u v))∧aq w i:=by
 obtain⟨l,m,rfl⟩:=b.val;obtain⟨n,o,rfl⟩:=c.val;have hk:=aq.alloc w (.cells #[.bool false,.bool false] 271);have a:=f.cC hk;have j:=Lib.hid (AD len p g w.heap.size u v _ _ (.pointer none) _ ⟨a.kw,a.pl,a.inj,a.cap,by simp[go_sem],by simp[go_sem],a.done,a.po,a.cD,a.cE⟩ hu h b c .nil);have d:=Lib.hid hk;clear f hu h b c hk a;go_enter Tryz.func144,Tryz.ntmps144;go_wp2_with fail
 refine j.out.mono ?_;rintro e i ⟨rfl,k⟩;go_wp2_with fail
 go_ret;exact⟨rfl,d.out.trans k⟩
theorem iA{p:Pm}{g:Ge}{u:U}{x:Value}(h:TS.Node p g u x):(bare (bare u)=bare u)→((bare u).k=11→∃y,(bare u).un= [y]∧y.k≠16)→(bare u).k≠12→(bare u).k≠13→∃t b rt s,x=ae t b∧(∀w:World,KW p w→b8 w t b (ae rt s))∧
 (((under u).k≠16∧TS.Node p g (under u) (ae rt s))∨((under u).k=16∧rt=33∧g.G s=some cV)):=by
 induction h with
 | @alias u x y h2 ha v ih=>
   intro i r n o;obtain⟨t,b,rt,s,e,A,hr⟩:=ih (by rw[i];exact i) (by rw[i];exact r) (by rw[i];exact n) (by rw[i];exact o);have hu:under (bare u)=under u:=by unfold under;rw[i]
   rw[hu]at hr;subst e;obtain⟨c,rfl,h3⟩:=ha.start;exact⟨_,_,rt,s,rfl,fun w hw=>ze c b t _ w (hw _ _ _ h3) (A w hw),hr⟩
 | @any u x B v ih=>
   intro i r n o;have j:bare u=br:=gd B;have l:bare br=br:=ca (by decide) (by decide);obtain⟨t,b,rt,s,e,A,hr⟩:=ih (by rw[l];exact l) (by rw[l];intro h;cases h) (by rw[l];decide) (by rw[l];decide);have hu:under br=under u:=by unfold under;rw[j,l]
   rw[hu]at hr;exact⟨t,b,rt,s,e,A,hr⟩
 | @basic u b hk h=>
   intro _ _ _ _;have hu:under u=u:=cB (by omega) (by omega) (by omega) (by omega);exact⟨_,_,_,_,rfl,fun w _=>yX b w,.inl ⟨by rw[hu];omega,by rw[hu];exact .basic hk h⟩⟩
 | @array u e b x hk h1 h2 h3 m _=>
   intro _ _ _ _;have hu:under u=u:=cB (by omega) (by omega) (by omega) (by omega);exact⟨_,_,_,_,rfl,fun w _=>yZ b w,.inl ⟨by rw[hu];omega,by rw[hu];exact .array hk h1 h2 h3 m⟩⟩
 | @slice u e b x hk h1 h2 h3 _=>
   intro _ _ _ _;have hu:under u=u:=cB (by omega) (by omega) (by omega) (by omega);exact⟨_,_,_,_,rfl,fun w _=>mi b w,.inl ⟨by rw[hu];omega,by rw[hu];exact .slice hk h1 h2 h3⟩⟩
 | @struct u b a a' c c' f xs hk h1 h2 h3 m q C h7 D _=>
   intro _ _ _ _;have hu:under u=u:=cB (by omega) (by omega) (by omega) (by omega);exact⟨_,_,_,_,rfl,fun w _=>y_ b w,.inl ⟨by rw[hu];omega,by rw[hu];exact .struct hk h1 h2 h3 m q C h7 D⟩⟩
 | @pointer u e b x hk h1 h2 h3 _=>
   intro _ _ _ _;have hu:under u=u:=cB (by omega) (by omega) (by omega) (by omega);exact⟨_,_,_,_,rfl,fun w _=>y7 b w,.inl ⟨by rw[hu];omega,by rw[hu];exact .pointer hk h1 h2 h3⟩⟩
 | @func u b pv rv f xs hk h1 h2 h3 m q C h7 D _=>
   intro _ _ _ _;have hu:under u=u:=cB (by omega) (by omega) (by omega) (by omega);exact⟨_,_,_,_,rfl,fun w _=>yY b w,.inl ⟨by rw[hu];omega,by rw[hu];exact .func hk h1 h2 h3 m q C h7 D⟩⟩
 | @map u d e b x y hk h1 h2 h3 m q _ _=>
   intro _ _ _ _;have hu:under u=u:=cB (by omega) (by omega) (by omega) (by omega);exact⟨_,_,_,_,rfl,fun w _=>y8 b w,.inl ⟨by rw[hu];omega,by rw[hu];exact .map hk h1 h2 h3 m q⟩⟩
 | @chan u e b x hk h1 h2 h3 m _=>
   intro _ _ _ _;have hu:under u=u:=cB (by omega) (by omega) (by omega) (by omega);exact⟨_,_,_,_,rfl,fun w _=>y9 b w,.inl ⟨by rw[hu];omega,by rw[hu];exact .chan hk h1 h2 h3 m⟩⟩
 | @iface u b hk h1=>
   intro _ _ _ _;have hu:under u=u:=cB (by omega) (by omega) (by omega) (by omega);exact⟨_,_,_,_,rfl,fun w _=>zc b w,.inl ⟨by rw[hu];omega,by rw[hu];exact .iface hk h1⟩⟩
 | @gm u hk h1 h2 h3 m=>
   intro _ r _ _;have j:bare u=u:=ca (by omega) (by omega);rw[j]at r;obtain⟨y,z,_⟩:=r hk;rw[h3]at z;cases z
 | @named u y x hk h1 h2 h3 m q v ih=>
   intro _ r _ _;have j:bare u=u:=ca (by omega) (by omega);have hu:under u=y:=gY (by rw[j];exact hk) (by rw[j];exact h3);obtain⟨t,b,rfl⟩:=v.val;refine⟨_,_,_,_,rfl,fun w hw=>ow _ t _ w (hw _ _ _ q.1) (hw _ _ _ q.2.1) (hw _ _ _ q.2.2),?_⟩;rw[hu];rw[j]at r;obtain⟨F,z,E⟩:=r hk;rw[h3]at z;cases z;exact .inl ⟨E,v⟩
 | @union u b a c f xs hk h1 h2 h3 m q _=>
   intro _ _ n o;exfalso;have j:bare u=u:=ca (by rcases hk with e|e<;>rw[e]<;>decide) (by rcases hk with e|e<;>rw[e]<;>decide);rw[j]at n o;rcases hk with e|e
   ·exact n e
   ·exact o e
 | @err u x hk h1 h2 h3 v ih=>
   intro _ _ _ _;have j:bare u=u:=ca (by omega) (by omega);have hu:under u=aF:=gZ (by rw[j];exact hk) (by rw[j];exact h1);obtain⟨t,b,rfl⟩:=v.val;exact⟨_,_,_,_,rfl,fun w hw=>ow _ t _ w (hw _ _ _ h3.1) (hw _ _ _ h3.2.1) (hw _ _ _ h3.2.2),.inl ⟨by rw[hu];decide,by rw[hu];exact v⟩⟩
 | @comp u b hk h1 h2 h3=>
   intro _ _ _ _;have j:bare u=u:=ca (by omega) (by omega);have hu:under u=u:=by rw[gh]<;>rw[j]<;>omega
   exact⟨_,_,_,_,rfl,fun w hw=>ow _ _ _ w (hw _ _ _ h2.1) (hw _ _ _ h2.2.1) (hw _ _ _ h2.2.2),.inr ⟨by rw[hu];exact hk,rfl,h3⟩⟩
end Go.Proofs.YtgbklbbknehefaaGreatDoor
namespace TS
open Go Go.RowKit Go.Sort Go.Proofs.YtgbklbbknehefaaGreatDoor
def dt(len:Nat):Tm→Prop
 |none=>True
 |some (_,e)=>Tok len e
theorem Tok.eG{len:Nat}{e:U}(h:Tok len e){p:Pm}{g:Ge}{x:Value}(d:TS.Node p g e x){w:World}(hw:KW p w):∃t b rt c,x=ae t b∧b8 w t b (ae rt c)∧TS.Node p g (under e) (ae rt c):=by
 have a:=h.vt.bare.1.aA;obtain⟨t,b,rt,c,h1,h2,h3⟩:=iA d (iv h.vt) h.fl a.1 a.2;refine⟨t,b,rt,c,h1,h2 w hw,?_⟩;rcases h3 with⟨_,h3⟩|⟨h3,_⟩
 ·exact h3
 ·have:=h.ni
  unfold isIface at this;rw[h3]at this;simp at this
end TS
namespace Go.Proofs.YtgbklbbknehefaaGreatDoor
open Go.RowKit TS Go.Sort
theorem sB(len:Nat)(p:Pm)(g:Ge)(x y:Nat)(d d':Bool)(e f:U)(w:World)(i:an p g w)(L:aY p g (some (d,e)) x)(M:aY p g (some (d',f)) y)(he:Tok len e)(r:Tok len f):
 Calls Tryz.prog 205 #[.pointer (some ⟨x,0,none⟩),.pointer (some ⟨y,0,none⟩)] w fun N O=>N= .returned (.bool (eW (d,e) (d',f)))∧aq w O:=by
 obtain⟨l,Y,m,c⟩:=L;obtain⟨n,Z,o,h⟩:=M;obtain⟨t,b,rt,rb,rfl,P,k⟩:=he.eG c i.kw;obtain⟨t',b',Q,R,rfl,G,a⟩:=r.eG h i.kw;have c0:=i.kw _ _ _ l;have c1:=i.kw _ _ _ m;have k0:=i.kw _ _ _ n;have k1:=i.kw _ _ _ o;obtain⟨K,fn,cc,C,q,H,hm,hn,I⟩:=P;have S:=fun args w=>Go.MuLone.run_callFunc_enter C q H args w;obtain⟨K',T,V,s,j,D,W,X,E⟩:=G;have J:=fun args w=>Go.MuLone.run_callFunc_enter s j D args w;have F:=Lib.hid I;have u:=Lib.hid E;clear C q H s j D I E;cases d
 ·cases d'
  ·have v:=Lib.hid (kS len p g e f _ _ w i he.vt r.vt c h)
   have hr:Hid ((!aE e f)=eW (false,e) (false,f)):=rfl;clear i c h k a he r l m n o;go_enter Tryz.func205,Tryz.ntmps205;go_wp2_with fail
   refine v.out.mono ?_;rintro z A ⟨rfl,B⟩;go_wp2_with fail
   go_ret;exact⟨by rw[←hr.out];rfl,B⟩
  ·have v:=Lib.hid (kS len p g (under e) f _ _ w i he.vu r.vt k h)
   have hr:Hid ((!aE (under e) f)=eW (false,e) (true,f)):=rfl;clear i c h k a he r l m n o;go_enter Tryz.func205,Tryz.ntmps205;go_wp2_with fail
   refine F.out.mono ?_;rintro z A ⟨rfl,rfl⟩;go_wp2_with fail
   refine v.out.mono ?_;rintro z A ⟨rfl,B⟩;go_wp2_with fail
   go_ret;exact⟨by rw[←hr.out];rfl,B⟩
 ·cases d'
  ·have v:=Lib.hid (kS len p g e (under f) _ _ w i he.vt r.vu c a)
   have hr:Hid ((!aE e (under f))=eW (true,e) (false,f)):=rfl;clear i c h k a he r l m n o;go_enter Tryz.func205,Tryz.ntmps205;go_wp2_with fail
   refine u.out.mono ?_;rintro z A ⟨rfl,rfl⟩;go_wp2_with fail
   refine v.out.mono ?_;rintro z A ⟨rfl,B⟩;go_wp2_with fail
   go_ret;exact⟨by rw[←hr.out];rfl,B⟩
  ·have v:=Lib.hid (kS len p g (under e) (under f) _ _ w i he.vu r.vu k a)
   have hr:Hid ((!aE (under e) (under f))=eW (true,e) (true,f)):=rfl;clear i c h k a he r l m n o;go_enter Tryz.func205,Tryz.ntmps205;go_wp2_with fail
   refine F.out.mono ?_;rintro z A ⟨rfl,rfl⟩;go_wp2_with fail
   refine u.out.mono ?_;rintro z A ⟨rfl,rfl⟩;go_wp2_with fail
   refine v.out.mono ?_;rintro z A ⟨rfl,B⟩;go_wp2_with fail
   go_ret;exact⟨by rw[←hr.out];rfl,B⟩
def kT(p:Pm)(g:Ge)(x y:Nat)(a ty:Tm)(w:World)(e:Ending)(b:World):Prop:=
 aq w b∧match cq a ty with
  |none=>e= .returned (.tuple #[.pointer (some ⟨x,0,none⟩),.pointer (some ⟨y,0,none⟩)])
  |some c=> ∃z,aY p g c z∧e= .returned (.tuple #[.pointer (some ⟨z,0,none⟩),.pointer none])
def kU(p:Pm)(g:Ge)(a ty:Tm)(w:World)(e:Ending)(b:World):Prop:=
 aq w b∧match cr a ty with
  |none=>e= .returned (.pointer none)
  |some c=> ∃z,aY p g c z∧e= .returned (.pointer (some ⟨z,0,none⟩))
theorem AE(len:Nat)(p:Pm)(g:Ge)(x y:Nat)(t ty:Tm)(w:World)(j:an p g w)(q:aY p g t x)(o:aY p g ty y)(u:dt len t)(v:dt len ty):
 Calls Tryz.prog 204 #[.pointer (some ⟨x,0,none⟩),.pointer (some ⟨y,0,none⟩)] w (kT p g x y t ty w):=by
 match t,q,u with
 |none,q,_=>
  have c1:=j.kw _ _ _ q;have z:Hid (kT p g x y none ty w (.returned (.tuple #[.pointer (some ⟨x,0,none⟩),.pointer none])) w):=⟨aq.refl _,x,q,rfl⟩
  clear j q o;go_enter Tryz.func204,Tryz.ntmps204;go_wp2_with fail
  go_ret2;exact z.out
 |some (d,e),q,u=>
  obtain⟨c,G,h,i⟩:=q;obtain⟨H,I,rfl⟩:=i.val;have c0:=j.kw _ _ _ c;have c1:=j.kw _ _ _ h;match ty,o,v with
  |none,o,_=>
   have E:=j.kw _ _ _ o;have z:Hid (kT p g x y (some (d,e)) none w (.returned (.tuple #[.pointer (some ⟨y,0,none⟩),.pointer none])) w):=⟨aq.refl _,y,o,rfl⟩
   clear j c h i o;go_enter Tryz.func204,Tryz.ntmps204;go_wp2_with fail
   go_ret2;exact z.out
  |some (d',f),o,v=>
   obtain⟨l,J,m,n⟩:=o;obtain⟨K,L,rfl⟩:=n.val;have A:=j.kw _ _ _ l;have E:=j.kw _ _ _ m;have s:=Lib.hid (sB len p g x y d d' e f w j ⟨c,_,h,i⟩ ⟨l,_,m,n⟩ u v);have D:Hid (aY p g (some (d,e)) x):=⟨c,_,h,i⟩
   have F:Hid (aY p g (some (d',f)) y):=⟨l,_,m,n⟩
   clear j c h i l m n u v;cases k:eW (d,e) (d',f)
   ·rw[k]at s
    cases d
    ·cases d'
     ·have r:Hid (cq (some (false,e)) (some (false,f))=some (some (false,e))):=by simp[Hid,cq,k]
      clear k;go_enter Tryz.func204,Tryz.ntmps204;go_wp2_with fail
      refine s.out.mono ?_;rintro B C ⟨rfl,a⟩;have f0:=a.cell c0;have f1:=a.cell A;have b:=Lib.hid a;clear a;go_wp2_with fail
      go_ret2;exact⟨b.out,by rw[r.out];exact⟨x,D.out,rfl⟩⟩
     ·have r:Hid (cq (some (false,e)) (some (true,f))=some (some (true,f))):=by simp[Hid,cq,k]
      clear k;go_enter Tryz.func204,Tryz.ntmps204;go_wp2_with fail
      refine s.out.mono ?_;rintro B C ⟨rfl,a⟩;have f0:=a.cell c0;have f1:=a.cell A;have b:=Lib.hid a;clear a;go_wp2_with fail
      go_ret2;exact⟨b.out,by rw[r.out];exact⟨y,F.out,rfl⟩⟩
    ·have r:Hid (cq (some (true,e)) (some (d',f))=some (some (true,e))):=by simp[Hid,cq,k]
     clear k;go_enter Tryz.func204,Tryz.ntmps204;go_wp2_with fail
     refine s.out.mono ?_;rintro B C ⟨rfl,a⟩;have f0:=a.cell c0;have f1:=a.cell A;have b:=Lib.hid a;clear a;go_wp2_with fail
     go_ret2;exact⟨b.out,by rw[r.out];exact⟨x,D.out,rfl⟩⟩
   ·rw[k]at s
    have r:Hid (cq (some (d,e)) (some (d',f))=none):=by simp[Hid,cq,k]
    clear k;go_enter Tryz.func204,Tryz.ntmps204;go_wp2_with fail
    refine s.out.mono ?_;rintro B C ⟨rfl,a⟩;have b:=Lib.hid a;clear a;go_wp2_with fail
    go_ret2;exact⟨b.out,by rw[r.out];exact rfl⟩
theorem AF(len:Nat)(p:Pm)(g:Ge)(x y:Nat)(t ty:Tm)(w:World)(j:an p g w)(r:aY p g t x)(o:aY p g ty y)(u:dt len t)(v:dt len ty):
 Calls Tryz.prog 177 #[.pointer (some ⟨x,0,none⟩),.pointer (some ⟨y,0,none⟩)] w (kU p g t ty w):=by
 match t,r,u with
 |none,r,_=>
  have c1:=j.kw _ _ _ r;have z:Hid (kU p g none ty w (.returned (.pointer (some ⟨y,0,none⟩))) w):=⟨aq.refl _,y,o,rfl⟩
  clear j r o;go_enter Tryz.func177,Tryz.ntmps177;go_wp2_with fail
  go_ret;exact z.out
 |some (d,e),r,u=>
  obtain⟨c,G,h,i⟩:=r;obtain⟨H,I,rfl⟩:=i.val;have c0:=j.kw _ _ _ c;have c1:=j.kw _ _ _ h;match ty,o,v with
  |none,o,_=>
   have E:=j.kw _ _ _ o;have z:Hid (kU p g (some (d,e)) none w (.returned (.pointer (some ⟨x,0,none⟩))) w):=⟨aq.refl _,x,⟨c,_,h,i⟩,rfl⟩
   clear j c h i o;go_enter Tryz.func177,Tryz.ntmps177;go_wp2_with fail
   go_ret;exact z.out
  |some (d',f),o,v=>
   obtain⟨l,J,m,n⟩:=o;obtain⟨K,L,rfl⟩:=n.val;have A:=j.kw _ _ _ l;have E:=j.kw _ _ _ m;have s:=Lib.hid (sB len p g x y d d' e f w j ⟨c,_,h,i⟩ ⟨l,_,m,n⟩ u v);have D:Hid (aY p g (some (d,e)) x):=⟨c,_,h,i⟩
   have F:Hid (aY p g (some (d',f)) y):=⟨l,_,m,n⟩
   clear j c h i l m n u v;cases k:eW (d,e) (d',f)
   ·rw[k]at s
    cases d
    ·have q:Hid (cr (some (false,e)) (some (d',f))=some (some (false,e))):=by simp[Hid,cr,k]
     clear k;go_enter Tryz.func177,Tryz.ntmps177;go_wp2_with fail
     refine s.out.mono ?_;rintro B C ⟨rfl,a⟩;have f0:=a.cell c0;have f1:=a.cell A;have b:=Lib.hid a;clear a;go_wp2_with fail
     go_ret;exact⟨b.out,by rw[q.out];exact⟨x,D.out,rfl⟩⟩
    ·cases d'
     ·have q:Hid (cr (some (true,e)) (some (false,f))=some (some (false,f))):=by simp[Hid,cr,k]
      clear k;go_enter Tryz.func177,Tryz.ntmps177;go_wp2_with fail
      refine s.out.mono ?_;rintro B C ⟨rfl,a⟩;have f0:=a.cell c0;have f1:=a.cell A;have b:=Lib.hid a;clear a;go_wp2_with fail
      go_ret;exact⟨b.out,by rw[q.out];exact⟨y,F.out,rfl⟩⟩
     ·have q:Hid (cr (some (true,e)) (some (true,f))=some (some (true,e))):=by simp[Hid,cr,k]
      clear k;go_enter Tryz.func177,Tryz.ntmps177;go_wp2_with fail
      refine s.out.mono ?_;rintro B C ⟨rfl,a⟩;have f0:=a.cell c0;have f1:=a.cell A;have b:=Lib.hid a;clear a;go_wp2_with fail
      go_ret;exact⟨b.out,by rw[q.out];exact⟨x,D.out,rfl⟩⟩
   ·rw[k]at s
    have q:Hid (cr (some (d,e)) (some (d',f))=none):=by simp[Hid,cr,k]
    clear k;go_enter Tryz.func177,Tryz.ntmps177;go_wp2_with fail
    refine s.out.mono ?_;rintro B C ⟨rfl,a⟩;have b:=Lib.hid a;clear a;go_wp2_with fail
    go_ret;exact⟨b.out,by rw[q.out];exact rfl⟩
end Go.Proofs.YtgbklbbknehefaaGreatDoor
namespace TS
open Go Go.RowKit Go.Proofs.YtgbklbbknehefaaGreatDoor
theorem Plain.below{w a:World}{b:Nat}(h:Plain w b)(k:Below w.heap.size w a):Plain a b:=by
 obtain⟨cs,T,c⟩:=h;exact⟨cs,T,by rw[k.block b (Array.getElem?_eq_some_iff.1 c).1];exact c⟩
theorem ak{w b:World}(k:Below w.heap.size w b){a:Addr}{v:Value}(h:w.cell? a=some v):b.cell? a=some v:=by
 rw[k.cell (World.block_lt_of_cell? _ _ h)];exact h
theorem bD.below{w a:World}(h:bD w)(k:Below w.heap.size w a):bD a:=fun c h1 h2=>ak k (h c h1 h2)
theorem an.below{p:Pm}{g:Ge}{w a:World}(h:an p g w)(k:Below w.heap.size w a):an p g a:=
 ⟨h.kw.grown k,fun b o v c=>(h.pl b o v c).below k,h.inj,h.cap.below k,h.done,h.po,h.cD,h.cE⟩
abbrev pv(b:Nat):Value:= .pointer (some ⟨b,0,none⟩)
structure bZ(p:Pm)(g:Ge)(B:Nat)(wr:World)(v:Value)(rs:List Nat)(R:List Tm):Prop where
 own:wr.ownsRow B 191 1 v rs.length (rs.map pv)
 len:rs.length=R.length
 cd:∀i(h:i<R.length)(a:i<rs.length),aY p g R[i] rs[i]
theorem bZ.below{p:Pm}{g:Ge}{B:Nat}{wr a:World}{v:Value}{rs:List Nat}{R:List Tm}(h:bZ p g B wr v rs R)(k:Below wr.heap.size wr a):bZ p g B a v rs R:=
 ⟨bq h.own k,h.len,h.cd⟩
theorem bZ.sub{p q:Pm}{g b:Ge}{B:Nat}{wr:World}{v:Value}{rs:List Nat}{R:List Tm}(h:bZ p g B wr v rs R)(hk:Sub p q)(c:aD g b):bZ q b B wr v rs R:=
 ⟨h.own,h.len,fun i hi a=>(h.cd i hi a).sub hk c⟩
theorem bZ.more{p:Pm}{g:Ge}{B:Nat}{wr d:World}{v e:Value}{rs:List Nat}{R:List Tm}{z:Tm}{b:Nat}(h:bZ p g B wr v rs R)(j:d.ownsRow B 191 1 e (rs.length+1) (rs.map pv++ [pv b]))(k:aY p g z b):bZ p g B d e (rs++ [b]) (R++ [z]) where
 own:=by simpa using j
 len:=by simp[h.len]
 cd:=fun i hi c=>by
  have f:=h.len;simp only[List.length_append,List.length_cons,List.length_nil]at hi c;by_cases a:i<R.length
  ·rw[List.getElem_append_left a,List.getElem_append_left (by omega)];exact h.cd i a (by omega)
  ·have l:i=R.length:=by omega
   subst l;simp[←f];simpa [f]using k
theorem an.add{p:Pm}{g:Ge}{w:World}{b:Nat}{cs:Array Value}{T:TypeId}(h:an p g w)(a:∀o,p b o=none)(c:w.heap[b]?=some (.cells cs T (0,0))):an (p.add b cs) g w where
 kw:=h.kw.add fun o u hu=>by simp[World.cell?,c,hu]
 pl:=fun d o v f=>by
  by_cases e:d=b
  ·subst e;exact⟨cs,T,c⟩
  ·rw[Pm.aJ _ _ _ e]at f;exact h.pl _ _ _ f
 inj:=h.inj
 cap:=h.cap
 done:=fun d u hu=>⟨Pm.cP a _ _ _ (h.done _ _ hu).1,(h.done _ _ hu).2.sub (Pm.cP a) (aD.refl g)⟩
 po:=fun i hi=>let⟨o,v,e⟩:=h.po i hi;⟨o,v,Pm.cP a _ _ _ e⟩
 cD:=let⟨o,v,e⟩:=h.cD;⟨o,v,Pm.cP a _ _ _ e⟩
 cE:=let⟨o,v,e⟩:=h.cE;⟨o,v,Pm.cP a _ _ _ e⟩
theorem an.own{p:Pm}{g:Ge}{w e:World}{X:Nat→Prop}(h:an p g w)(k:Kept X w e)(f:∀b,X b→∀o,p b o=none)(j:¬X 5):an p g e where
 kw:=h.kw.kept k fun b o v a d=>by rw[f b d o]at a;cases a
 pl:=fun b o v a=>by
  obtain⟨cs,T,i⟩:=h.pl b o v a;exact⟨cs,T,by rw[k.block b (Array.getElem?_eq_some_iff.1 i).1 fun d=>by rw[f b d o]at a;cases a];exact i⟩
 inj:=h.inj
 cap:=fun c h1 h2=>by
  have:=h.cap c h1 h2;rw[k.cell (World.block_lt_of_cell? _ _ this) j];exact this
 done:=h.done
 po:=h.po
 cD:=h.cD
 cE:=h.cE
structure Flags(wr:World)(a n:Nat)(F:Nat→Bool):Prop where
 us:∀j,j<n→wr.cell? ⟨a,j,none⟩=some (.bool (F j))
 fz:∀j,j<n→wr.frozen? ⟨a,j,none⟩=false
theorem Flags.of{wr d:World}{b n:Nat}{F:Nat→Bool}(h:Flags wr b n F)(e:d.heap[b]?=wr.heap[b]?):Flags d b n F:=
 ⟨fun j c=>(World.cell?_of_block (w:=wr) (a:=⟨b,j,none⟩) e).trans (h.us j c),fun j c=>(World.frozen?_of_block (w:=wr) (a:=⟨b,j,none⟩) e).trans (h.fz j c)⟩
end TS
namespace Go.Proofs.YtgbklbbknehefaaGreatDoor
open Go.RowKit TS
theorem AJ:(Tryz.prog.info? 4).map (fun i=>(i.zero,i.size,i.bytes))=some (some (.bool false),1,1):=by kernel_rfl
def AK(p:Pm)(g:Ge)(c:List Tm)(w:World)(e:Ending)(a:World):Prop:=
 ∃q v rs,e= .returned v∧aK p q w.heap.size∧an q g a∧bZ q g w.heap.size a v rs (dY c)∧Below w.heap.size w a∧∀b,v.ownBlock=some b→∀o,q b o=none
theorem sD(len:Nat)(p:Pm)(g:Ge)(a:Option Addr)(n c:Nat)(f:Nat→Nat)(l:List Tm)(w:World)(hn:n=l.length)(hl:n≤1099511627776)(hE:an p g w)(hp:bj w a n f)(ht:∀i(h:i<l.length),aY p g l[i] (f i))(ok:∀t∈l,dt len t):
 Calls Tryz.prog 175 #[.slice a n c] w (AK p g l w):=by
 have Qi:=Lib.hid hp;have L:=Lib.hid hE;have Qj:Hid (∀i,i<n→aY p g (l.getD i none) (f i)∧dt len (l.getD i none)):=fun i hi=>by
  have h:i<l.length:=by omega
  have e:l.getD i none=l[i]:=by simp[h]
  rw[e];exact⟨ht i h,ok _ (List.getElem_mem h)⟩
 have QH:=Lib.hid hn;obtain⟨i0,hi,QI,QJ,QK⟩:=info_parts AJ;obtain⟨i1,hj,QL,QM,QN⟩:=info_parts oz;clear hp hE ht ok hn;go_enter Tryz.func175,Tryz.ntmps175;go_wp2_with (first|(at_make;refine wpList_make_full _ rfl _ _ 307 rfl w.heap.size 4 i0 (.bool false) 1 Tryz.underlying307 hi QI QJ .i64 .i64 _ _ n rfl rfl rfl rfl (by rw[QK];omega) (by unfold maxLen;omega) (Nat.le_refl _) ?_;intro w1 A Qk)|fail)
 have QO:Hid (Below w.heap.size w w1):=(Below.refl w.heap.size w).grown Qk (Nat.le_refl _) fun k hk=>by cases hk
 have QP:Hid (Flags w1 w.heap.size n fun _=>false):=by
  refine⟨fun j hj=> ?_,fun j _=>A.frozenAt j⟩;have:=A.cells (g:=w.heap.size) rfl j (.bool false) (by simp[madeCells,Value.cells,hj,Nat.mod_one]);rwa [show(⟨w.heap.size,0,none⟩:Addr).add j=⟨w.heap.size,j,none⟩ by unfold Addr.add;split<;>simp_all]at this
 have D:w.heap.size<w1.heap.size:=(A.lt w.heap.size rfl).2;clear A Qk;go_loopw [16,4] (fun vi vr wr=> ∃(k:Nat)(F:Nat→Bool)(rs:List Nat)(R:List Tm),k≤n∧vi= .int .i64 k∧Below w.heap.size w wr∧Flags wr w.heap.size n F∧w.heap.size<wr.heap.size∧bZ p g w.heap.size wr vr rs R∧vr.ownBlock≠some w.heap.size∧rs.length≤k∧dU l R (cz l F k (n- k))) (fun vi _ _=>n- (intOf vi).toNat)
 case atStart=>
  refine⟨0,fun _=>false,[],[],Nat.zero_le _,rfl,QO.out,QP.out,D,⟨World.ownsRow_nil _ _ _ _,rfl,fun i h=>absurd h (Nat.not_lt_zero _)⟩,by simp[Value.ownBlock],Nat.le_refl _,?_⟩;rw[QH.out,Nat.sub_zero,AG];exact AI l
 case round=>
  obtain⟨k,F,rs,R,hk,rfl,hB,hF,Ql,hT,Qm,Q7,hN⟩:=hrel;have M:=Lib.hid hB;have Qc:=Lib.hid hF;have N:=Lib.hid hT;have J:=Lib.hid Qm;have W:=Lib.hid hN;clear hB hF hT Qm hN;obtain⟨va,vc,rfl⟩:=aZ N.out.own;by_cases X:k<n
  ·have Q4:(k:Int)<n:=by omega
   obtain⟨ab,ao,rfl,QQ⟩:=Qi.out k X;have hc:=ak M.out QQ;have hu:=Qc.out.us k X;have u:=mC l F k (n- (k+1));rw[show n- (k+1)+1=n- k by omega]at u;cases Y:F k
   ·rw[Y]at hu u
    have Z:Hid (dU l R (l.getD k none::cz l F (k+1) (n- (k+1)))):=by have:=W.out;rw[u]at this;exact this
    clear u Y W;obtain⟨wo,rfl⟩:∃wo:World,wo=wr:=⟨_,rfl⟩
    obtain⟨Qn,Qo⟩:=Qj.out k X;have Qp:=Lib.hid Qn;have Qq:=Lib.hid Qo;clear Qn Qo;go_wp2_with fail
    go_loopw [7,6] (fun vj vx wx=> ∃(j:Nat)(s:Nat→Bool)(z:Tm)(O:Nat),k+1≤j∧j≤n∧vj= .int .i64 j∧vx= .pointer (some ⟨O,0,none⟩)∧aY p g z O∧dt len z∧Below w.heap.size w wx∧Flags wx w.heap.size n s∧w.heap.size<wx.heap.size∧bZ p g w.heap.size wx (.slice va rs.length vc) rs R∧(∀i,j≤i→s i=F i)∧
     du (l.getD k none) (cz l F (k+1) (n- (k+1))) z (cz l s (k+1) (j- (k+1))) (cz l s j (n- j))) (fun vj _ _=>n- (intOf vj).toNat)
    case atStart=>exact⟨k+1,F,_,f k,Nat.le_refl _,X,by go_num,rfl,Qp.out,Qq.out,M.out,Qc.out,Ql,N.out,fun _ _=>rfl,by rw[Nat.sub_self,mA];exact AH _ _⟩
    case round=>
     obtain⟨j,s,z,O,Q8,Q9,rfl,rfl,hz,Qr,Qs,Qt,Qu,Qv,Qw,hS⟩:=hrel;have P4:=Lib.hid hz;have K:=Lib.hid Qr;have m:=Lib.hid Qs;have r:=Lib.hid Qt;have x:=Lib.hid Qv;have P:=Lib.hid Qw;have Q:=Lib.hid hS;clear hz Qr Qs Qt Qv Qw hS;by_cases y:j<n
     ·have QR:(j:Int)<n:=by omega
      obtain⟨Q_,Ra,e0,QS⟩:=Qi.out j y;cases e0;have hd:=ak m.out QS;have hv:=r.out.us j y;have Rb:=r.out.fz j y;have E:=mC l s j (n- (j+1));have G:=oJ l s (k+1) (j- (k+1));rw[show n- (j+1)+1=n- j by omega]at E;rw[show k+1+(j- (k+1))=j by omega,show j- (k+1)+1=j+1- (k+1) by omega]at G;obtain⟨P5,P6⟩:=Qj.out j y;cases S:s j
      ·rw[S]at hv E G
       have v:Hid (du (l.getD k none) (cz l F (k+1) (n- (k+1))) z (cz l s (k+1) (j- (k+1))) (l.getD j none::cz l s (j+1) (n- (j+1)))):=by have:=Q.out;rw[E]at this;exact this
       have Qx:=Lib.hid G;have hU:=Lib.hid (AE len p g O (f j) z (l.getD j none) wr (L.out.below m.out) P4.out P5 K.out P6);have Q5:=Lib.hid P5;have Qy:=Lib.hid P6;have Q6:=Lib.hid S;clear E G Q P5 P6 S;cases d:cq z (l.getD j none)with
       |none=>
        have Qd:=Lib.hid (v.out.gP d);have B:=hU.out;unfold kT at B;rw[d]at B;have H:=Lib.hid B;clear hU B d v;go_wp2_with fail
        refine H.out.mono ?_;rintro e1 C ⟨V,rfl⟩;have q:=Lib.hid V.below;have Qz:=V.size;clear V;go_wp2_with fail
        refine⟨⟨j+1,s,z,O,by omega,by omega,by go_num,rfl,P4.out,K.out,m.out.trans (q.out.mono (by omega)),r.out.of (q.out.block _ (by omega)),by omega,x.out.below q.out,fun i hi=>P.out i (by omega),?_⟩,?_⟩
        ·rw[Qx.out];exact Qd.out
        ·first|omega|(simp[intOf];omega)
       |some tz=>
        have B:=hU.out;unfold kT at B;rw[d]at B;have H:=Lib.hid B;clear hU B;match tz,d,H with
        |none,d,H=>
         have QA:=Lib.hid (Z.out.all (v.out.all d));clear d v;go_wp2_with fail
         refine H.out.mono ?_;rintro e1 C ⟨V,zz,P7,rfl⟩;have q:=Lib.hid V.below;have QT:=(L.out.below (m.out.trans (q.out.mono (by omega)))).kw _ _ _ P7;clear V P7;go_wp2_with fail
         refine(kK _).mono ?_;rintro e1 w3 ⟨rfl,rfl⟩;go_wp2_with fail
         go_ret;have Qe:Below w.heap.size w C:=m.out.trans (q.out.mono (by omega));have Qf:=L.out.below Qe;have QB:Below C.heap.size C ((C.alloc (.cells #[.bool false,.nilIface] 193)).alloc (.cells #[.pointer (some ⟨C.heap.size,0,none⟩)] 191)):=((Below.refl _ _).alloc (Nat.le_refl _) _).alloc (by simp) _;have P_:∀o,p C.heap.size o=none:=fun o=>Qf.kw.aG (Nat.le_refl _) o;have Qa:=Qe.size;refine⟨p.add C.heap.size #[.bool false,.nilIface],_,[C.heap.size],rfl,Pm.cW P_ Qa,(Qf.below QB).add (T:=193) P_ (by rw[Below.heap_alloc _ _ _ (by simp)];exact(MapKept.heap_alloc C _).1),?_,Qe.trans (QB.mono Qa),?_⟩
         ·rw[QA.out]
          refine⟨?_,rfl,fun i hi Rc=> ?_⟩
          ·have:=World.ownsRow_lit (base:=w.heap.size) (e:=191) (size:=1) (C.alloc (.cells #[.bool false,.nilIface] 193)) #[.pointer (some ⟨C.heap.size,0,none⟩)] 1 (by simp;omega) (by unfold maxLen;omega) rfl
           simpa using this
          ·have:i=0:=by simpa using hi
           subst this;show aY _ _ none _;unfold aY;simp[Pm.add]
         ·intro b hb o
          simp[Value.ownBlock]at hb;subst hb;rw[Pm.aJ _ _ _ (by omega)];exact Qf.kw.aG (by omega) o
        |some tz,d,H=>
         have Qd:=Lib.hid (v.out.take d (by simp));have QC:Hid (dt len (some tz)):=by
          rcases qZ d with e|e
          ·rw[e];exact K.out
          ·rw[e];exact Qy.out
         clear d v;go_wp2_with fail
         refine H.out.mono ?_;rintro e1 C ⟨V,zz,P7,rfl⟩;have q:=Lib.hid V.below;have Qz:=V.size;obtain⟨dz,ez⟩:=tz;obtain⟨Qb,zv,D,Qg⟩:=P7;obtain⟨zt,Re,rfl⟩:=Qg.val;have QD:=L.out.below (m.out.trans (q.out.mono (by omega)));have QT:=QD.kw _ _ _ D;have QU:Hid (aY p g (some (dz,ez)) zz):=⟨Qb,_,D,Qg⟩
         have Rg:=(r.out.of (q.out.block _ (by omega))).fz j y;have Rh:=(r.out.of (q.out.block _ (by omega))).us j y;clear V Qb D Qg QD;go_wp2_with fail
         refine⟨⟨j+1,fun i=>if i=j then true else s i,some (dz,ez),zz,by omega,by omega,by go_num,rfl,QU.out,QC.out,?_,?_,?_,?_,fun i hi=> ?_,?_⟩,?_⟩
         ·exact(m.out.trans (q.out.mono (by omega))).setCell (Nat.le_refl _) _
         ·have P8:=r.out.of (q.out.block w.heap.size (by omega))
          refine⟨fun i hi=> ?_,fun i hi=> ?_⟩
          ·by_cases e:i=j
           ·subst e;simp[go_sem,P8.us i hi,P8.fz i hi]
           ·rw[World.cell?_setCell_other _ _ _ _ (by simp[e,Ne.symm e]),if_neg e];exact P8.us i hi
          ·simpa [go_sem]using P8.fz i hi
         ·simp[World.setCell];omega
         ·have Qh:=x.out.below q.out
          exact⟨eH Qh.own J.out _,Qh.len,Qh.cd⟩
         ·show(if i=j then true else s i)=F i
          rw[if_neg (by omega)];exact P.out i (by omega)
         ·have e1:cz l (fun i=>if i=j then true else s i) (k+1) (j+1- (k+1))=cz l s (k+1) (j- (k+1)):=by
           have:=oJ l (fun i=>if i=j then true else s i) (k+1) (j- (k+1));rw[show k+1+(j- (k+1))=j by omega,show j- (k+1)+1=j+1- (k+1) by omega]at this;rw[this,if_pos (by simp),List.append_nil];exact sC l fun i h1 h2=>if_neg (by omega)
          have e2:cz l (fun i=>if i=j then true else s i) (j+1) (n- (j+1))=cz l s (j+1) (n- (j+1)):=sC l fun i h1 h2=>if_neg (by omega);rw[e1,e2];exact Qd.out
         ·first|omega|(simp[intOf];omega)
      ·rw[S]at hv E G
       have v:Hid (du (l.getD k none) (cz l F (k+1) (n- (k+1))) z (cz l s (k+1) (j+1- (k+1))) (cz l s (j+1) (n- (j+1)))):=by have:=Q.out;rw[E]at this;unfold Hid;rw[G];simpa using this
       clear E G Q P5 P6 S;go_wp2_with fail
       refine⟨⟨j+1,s,z,O,by omega,by omega,by go_num,rfl,P4.out,K.out,m.out,r.out,Qu,x.out,fun i hi=>P.out i (by omega),v.out⟩,?_⟩;first|omega|(simp[intOf];omega)
     ·have QV:¬(j:Int)<n:=by omega
      have QW:j=n:=by omega
      subst QW;have v:Hid (dU l (R++ [z]) (cz l s (k+1) (j- (k+1)))):=Z.out.step (du.done (by have:=Q.out;rwa [Nat.sub_self,mA]at this));have U:=Lib.hid (x.out.own.alloc (.cells #[.pointer (some ⟨O,0,none⟩)] 191));go_wp2_with (first|(at_builtin;refine wpList_append_own_at _ rfl _ _ 133 rfl w.heap.size 191 i1 (.pointer none) 1 8 Tryz.underlying133 hj QL QM QN rfl (by decide) _ _ _ rfl U.out ⟨wr.heap.size,0,none⟩ 1 1 [.pointer (some ⟨O,0,none⟩)] rfl rfl (TS.dC wr _ _) (TS.one_one rfl) ?c3 ?c4 ?c5 ?_)|fail)
      case c3=>unfold maxLen;omega
      case c4=>omega
      case c5=>have:=m.out.size;(try simp);omega
      intro v' C I P9 _ QE;obtain⟨a',c',rfl⟩:=aZ I;have QX:Hid (Below w.heap.size w C):=((m.out.alloc m.out.size _).grown P9 (by have:=m.out.size;(try simp);omega) fun b hb=>(x.out.own.lt b hb).1)
      have QY:Hid (Flags C w.heap.size j s):=(r.out.of (Below.heap_alloc wr (.cells #[.pointer (some ⟨O,0,none⟩)] 191) w.heap.size (by omega))).of (P9.block _ (by(try simp);omega) fun e=>J.out e.symm);have QZ:Hid (bZ p g w.heap.size C (.slice a' (rs.length+1) c') (rs++ [O]) (R++ [z])):=x.out.more I P4.out;have QF:Hid ((Value.slice a' (rs.length+1) c').ownBlock≠some w.heap.size):=by
       rcases QE with e|e
       ·rw[e];exact J.out
       ·rw[e];intro h;injection h with h;(try simp at h);omega
      have QG:w.heap.size<C.heap.size:=by have:=P9.size;(try simp at this);omega
      clear I P9 QE U;go_wp2_with fail
      refine⟨⟨k+1,s,rs++ [O],R++ [z],by omega,by go_num,QX.out,QY.out,QG,by simpa using QZ.out,by simpa using QF.out,by simp;omega,v.out⟩,?_⟩;first|omega|(simp[intOf];omega)
   ·rw[Y]at hu u
    have Z:Hid (dU l R (cz l F (k+1) (n- (k+1)))):=by have:=W.out;rw[u]at this;exact this
    clear u Y;go_wp2_with fail
    refine⟨⟨k+1,F,rs,R,by omega,by go_num,M.out,Qc.out,Ql,N.out,J.out,by omega,Z.out⟩,?_⟩;first|omega|(simp[intOf];omega)
  ·have QV:¬(k:Int)<n:=by omega
   have Q3:k=n:=by omega
   have hR:Hid (dY l=R):=dU.done (by have:=W.out;rwa [Q3,Nat.sub_self,mA]at this);go_wp2_with fail
   go_ret;refine⟨p,_,rs,rfl,aK.refl _ _,L.out.below M.out,by rw[hR.out];exact N.out,M.out,fun b hb o=> ?_⟩;exact L.out.kw.aG (N.out.own.lt b hb).1 o
end Go.Proofs.YtgbklbbknehefaaGreatDoor
namespace TS
open Go Go.RowKit Go.Proofs.YtgbklbbknehefaaGreatDoor
def meets(xs a:List Tm):List Tm:=xs.flatMap fun x=>a.filterMap fun y=>cr x y
theorem AL(xs a:List Tm)(x:Tm):meets (xs++ [x]) a=meets xs a++a.filterMap fun y=>cr x y:=by simp[meets]
theorem sE(xs a:List Tm):(meets xs a).length≤xs.length*a.length:=by
 induction xs with
 |nil=>simp[meets]
 |cons x r ih=>
  have:(meets (x::r) a).length=(a.filterMap fun y=>cr x y).length+(meets r a).length:=by simp[meets]
  have h1:=List.length_filterMap_le (fun y=>cr x y) a;rw[this,List.length_cons,Nat.succ_mul];omega
theorem lK{l:List Tm}{k:Nat}(h:k<l.length):l.take (k+1)=l.take k++ [l.getD k none]:=by
 have hm:l[k]?=some l[k]:=List.getElem?_eq_getElem h;rw[List.take_add_one,hm,List.getD_eq_getElem?_getD,hm];rfl
theorem AM{xs a:List Tm}(h1:xs≠ [])(h2:a≠ []):bS xs a=dY (meets xs a):=by
 unfold bS meets;have b:xs.isEmpty=false:=by cases xs with|nil=>exact absurd rfl h1|cons=>rfl
 have c:a.isEmpty=false:=by cases a with|nil=>exact absurd rfl h2|cons=>rfl
 rw[b,c];simp
theorem AN{len:Nat}{xs a:List Tm}(h1:∀t∈xs,dt len t)(h2:∀t∈a,dt len t):∀t∈meets xs a,dt len t:=fun t b=>(nY b).elim (h1 t) (h2 t)
end TS
namespace Go.Proofs.YtgbklbbknehefaaGreatDoor
open Go.RowKit TS
theorem kV{p:Pm}{g:Ge}{B:Nat}{w:World}{v:Value}{rs:List Nat}{R:List Tm}(l:an p g w)(h:bZ p g B w v rs R)(n:∀b,v.ownBlock=some b→∀o,p b o=none):
 ∃q a c,v= .slice a rs.length c∧aK p q B∧an q g w∧bj w a rs.length (fun i=>rs.getD i 0)∧bK q a rs.length (fun i=>ptr (rs.getD i 0))∧∀i(h:i<R.length),aY q g R[i] (rs.getD i 0):=by
 have j:∀{q:Pm},Sub p q→∀i(h:i<R.length),aY q g R[i] (rs.getD i 0):=fun hk i hi=>by
  have x:=h.len;have:=(h.cd i hi (by omega)).sub hk (aD.refl g);simpa [show i<rs.length by omega]using this
 rcases h.own.2 with⟨k,r⟩|⟨b,cap,cur,k,s,m,y,z,t,e⟩
 ·have u:rs.length=0:=r
  exact⟨p,none,0,by rw[k,u],aK.refl _ _,l,fun i hi=>by omega,fun i hi=>by omega,j (Sub.refl p)⟩
 ·have f:=n b (by rw[k];rfl)
  have d:∀i,i<rs.length→cur[i]?=some (.pointer (some ⟨rs.getD i 0,0,none⟩)):=fun i hi=>by
   have:(cur.toList.take (rs.length*1))[i]?=some (.pointer (some ⟨rs.getD i 0,0,none⟩)):=by rw[e];simp[hi]
   rw[List.getElem?_take,if_pos (by omega)]at this;simpa using this
  refine⟨p.add b cur,some ⟨b,0,none⟩,cap,k,Pm.cW f s,l.add f m,fun i hi=>⟨b,0,rfl,?_⟩,fun i hi=>⟨b,0,rfl,?_⟩,j (Pm.cP f)⟩
  ·simp[World.cell?,m,d i hi]
  ·rw[Pm.aQ,Nat.zero_add];exact d i hi
theorem AO(len:Nat)(p:Pm)(g:Ge)(a a':Option Addr)(n C c c':Nat)(f Y:Nat→Nat)(xs d:List Tm)(w:World)(hn:n=xs.length)(Z:C=d.length)(hl:n≤1048576)(QG:C≤1048576)(hE:an p g w)(hp:bj w a n f)(Q:bj w a' C Y)
 (ht:∀i(h:i<xs.length),aY p g xs[i] (f i))(P4:∀i(h:i<d.length),aY p g d[i] (Y i))(ok:∀t∈xs,dt len t)(R:∀t∈d,dt len t):
 Calls Tryz.prog 147 #[.slice a n c,.slice a' C c'] w fun e w'=>
  ∃q v rs,e= .returned v∧aK p q w.heap.size∧an q g w'∧bZ q g w.heap.size w' v rs (bS xs d)∧Below w.heap.size w w'∧∀b,v.ownBlock=some b→∀o,q b o=none:=by
 have x:=Lib.hid (mr a n c f w hp);have u:=Lib.hid (mr a' C c' Y w Q);have hq:=Lib.hid hp;have Qq:=Lib.hid Q;have H:=Lib.hid hE;have hx:Hid (∀i,i<n→aY p g (xs.getD i none) (f i)∧dt len (xs.getD i none)):=fun i hi=>by
  have h:i<xs.length:=by omega
  have e:xs.getD i none=xs[i]:=by simp[h]
  rw[e];exact⟨ht i h,ok _ (List.getElem_mem h)⟩
 have hy:Hid (∀i,i<C→aY p g (d.getD i none) (Y i)∧dt len (d.getD i none)):=fun i hi=>by
  have h:i<d.length:=by omega
  have e:d.getD i none=d[i]:=by simp[h]
  rw[e];exact⟨P4 i h,R _ (List.getElem_mem h)⟩
 have Qr:=Lib.hid (AN ok R);have E:=Lib.hid hn;have z:=Lib.hid Z;obtain⟨i1,hj,Qs,Qt,Qu⟩:=info_parts oz;clear hp Q hE ht P4 ok R hn Z;by_cases M:n=0
 ·have K:decide (n=0)=true:=by simp[M]
  have hm:Hid (bS xs d= []):=by
   have:xs= []:=List.length_eq_zero_iff.1 (by rw[←E.out];exact M);subst this;simp[Hid,bS]
  rw[K]at x;clear M K;go_enter Tryz.func147,Tryz.ntmps147;go_wp2_with fail
  refine x.out.mono ?_;rintro e w1 ⟨rfl,rfl⟩;go_wp2_with fail
  go_ret;exact⟨p,_,[],rfl,aK.refl _ _,H.out,by rw[hm.out];exact⟨World.ownsRow_nil _ _ _ _,rfl,fun i h=>absurd h (Nat.not_lt_zero _)⟩,Below.refl _ _,fun b S=>by cases S⟩
 ·by_cases F:C=0
  ·have K:decide (n=0)=false:=by simp[M]
   have I:decide (C=0)=true:=by simp[F]
   have hm:Hid (bS xs d= []):=by
    have:d= []:=List.length_eq_zero_iff.1 (by rw[←z.out];exact F);subst this;simp[Hid,bS]
   rw[K]at x;rw[I]at u;clear M K F I;go_enter Tryz.func147,Tryz.ntmps147;go_wp2_with fail
   refine x.out.mono ?_;rintro e w1 ⟨rfl,rfl⟩;go_wp2_with fail
   refine u.out.mono ?_;rintro e w1 ⟨rfl,rfl⟩;go_wp2_with fail
   go_ret;exact⟨p,_,[],rfl,aK.refl _ _,H.out,by rw[hm.out];exact⟨World.ownsRow_nil _ _ _ _,rfl,fun i h=>absurd h (Nat.not_lt_zero _)⟩,Below.refl _ _,fun b S=>by cases S⟩
  ·have K:decide (n=0)=false:=by simp[M]
   have I:decide (C=0)=false:=by simp[F]
   have hm:Hid (bS xs d=dY (meets xs d)):=AM (by intro e;apply M;rw[E.out,e];rfl) (by intro e;apply F;rw[z.out,e];rfl);rw[K]at x;rw[I]at u;clear M K F I;go_enter Tryz.func147,Tryz.ntmps147;go_wp2_with fail
   refine x.out.mono ?_;rintro e w1 ⟨rfl,rfl⟩;go_wp2_with fail
   refine u.out.mono ?_;rintro e w1 ⟨rfl,rfl⟩;go_wp2_with fail
   clear x u;go_loopw [19,5] (fun vi vr wr=> ∃(k:Nat)(rs:List Nat),k≤n∧vi= .int .i64 k∧Below w.heap.size w wr∧bZ p g w.heap.size wr vr rs (meets (xs.take k) d)) (fun vi _ _=>n- (intOf vi).toNat)
   case atStart=>exact⟨0,[],Nat.zero_le _,rfl,Below.refl _ _,⟨World.ownsRow_nil _ _ _ _,rfl,fun i h=>absurd h (Nat.not_lt_zero _)⟩⟩
   case round=>
    obtain⟨k,rs,hk,rfl,hB,hT⟩:=hrel;obtain⟨va,vc,rfl⟩:=aZ hT.own;have A:=Lib.hid hB;have T:=Lib.hid hT;clear hB hT;by_cases P5:k<n
    ·have QF:(k:Int)<n:=by omega
     obtain⟨ab,ao,rfl,P6⟩:=hq.out k P5;have hc:=ak A.out P6;obtain⟨P7,P8⟩:=hx.out k P5;have P9:=Lib.hid P7;have P_:=Lib.hid P8;have Qv:Hid (xs.take (k+1)=xs.take k++ [xs.getD k none]):=TS.lK (by have:=E.out;omega);clear P6 P7 P8;obtain⟨wo,rfl⟩:∃wo:World,wo=wr:=⟨_,rfl⟩
     go_wp2_with fail
     go_loopw [25,5] (fun vj vr wr=> ∃(j:Nat)(rs:List Nat),j≤C∧vj= .int .i64 j∧Below w.heap.size w wr∧bZ p g w.heap.size wr vr rs (meets (xs.take k) d++(d.take j).filterMap fun y=>cr (xs.getD k none) y)) (fun vj _ _=>C- (intOf vj).toNat)
     case atStart=>exact⟨0,rs,Nat.zero_le _,rfl,A.out,by simpa using T.out⟩
     case round=>
      obtain⟨j,L,QH,rfl,Qa,U⟩:=hrel;obtain⟨QI,QJ,rfl⟩:=aZ U.own;have m:=Lib.hid Qa;have D:=Lib.hid U;clear Qa U;by_cases N:j<C
      ·have Qw:(j:Int)<C:=by omega
       obtain⟨QK,QL,rfl,Qb⟩:=Qq.out j N;have K:=ak m.out Qb;obtain⟨Qc,Qd⟩:=hy.out j N;have hI:=Lib.hid (AF len p g (f k) (Y j) (xs.getD k none) (d.getD j none) wr (H.out.below m.out) P9.out Qc P_.out Qd);have O:Hid (d.take (j+1)=d.take j++ [d.getD j none]):=TS.lK (by have:=z.out;omega);have P:L.length≤1099511627776:=by
        have h1:=D.out.len;have h2:=sE (xs.take k) d;have h3:=List.length_filterMap_le (fun y=>cr (xs.getD k none) y) (d.take j);simp only[List.length_append,List.length_take]at h1 h2 h3;have h4:min k xs.length*d.length≤1048575*1048576:=Nat.mul_le_mul (by have:=E.out;omega) (by have:=z.out;omega);have:=z.out;omega
       clear Qb Qc Qd;cases G:cr (xs.getD k none) (d.getD j none)with
       |none=>
        have s:=hI.out;unfold kU at s;rw[G]at s;have V:=Lib.hid s;have hR:Hid (((d.take (j+1)).filterMap fun y=>cr (xs.getD k none) y)=(d.take j).filterMap fun y=>cr (xs.getD k none) y):=by unfold Hid;rw[O.out,List.filterMap_append];simp[-List.getD_eq_getElem?_getD,G]
        clear hI s G;go_wp2_with fail
        refine V.out.mono ?_;rintro e W ⟨X,rfl⟩;have r:=Lib.hid X.below;clear X;go_wp2_with fail
        refine⟨⟨j+1,L,by omega,by go_num,m.out.trans (r.out.mono m.out.size),by rw[hR.out];exact D.out.below r.out⟩,?_⟩;first|omega|(simp[intOf];omega)
       |some tz=>
        have s:=hI.out;unfold kU at s;rw[G]at s;have V:=Lib.hid s;have hR:Hid (((d.take (j+1)).filterMap fun y=>cr (xs.getD k none) y)=((d.take j).filterMap fun y=>cr (xs.getD k none) y)++ [tz]):=by unfold Hid;rw[O.out,List.filterMap_append];simp[-List.getD_eq_getElem?_getD,G]
        clear hI s G;go_wp2_with fail
        refine V.out.mono ?_;rintro e W ⟨X,zb,Qe,rfl⟩;have r:=Lib.hid (m.out.trans (X.below.mono m.out.size));have l:=Lib.hid (D.out.below X.below);have Qf:=Lib.hid Qe;have J:=Lib.hid (l.out.own.alloc (.cells #[.pointer (some ⟨zb,0,none⟩)] 191));clear X Qe;go_wp2_with (first|(at_builtin;refine wpList_append_own_at _ rfl _ _ 133 rfl w.heap.size 191 i1 (.pointer none) 1 8 Tryz.underlying133 hj Qs Qt Qu rfl (by decide) _ _ _ rfl J.out ⟨W.heap.size,0,none⟩ 1 1 [.pointer (some ⟨zb,0,none⟩)] rfl rfl (TS.dC W _ _) (TS.one_one rfl) ?c3 ?c4 ?c5 ?_)|fail)
        case c3=>unfold maxLen;omega
        case c4=>omega
        case c5=>have:=r.out.size;(try simp);omega
        intro v' w3 B Qg _ Qx;obtain⟨a3,c3,rfl⟩:=aZ B;have Qy:Hid (Below w.heap.size w w3):=((r.out.alloc r.out.size _).grown Qg (by have:=r.out.size;(try simp);omega) fun b S=>(l.out.own.lt b S).1)
        have Qz:=Lib.hid (l.out.more B Qf.out);clear B Qg Qx J;go_wp2_with fail
        refine⟨⟨j+1,L++ [zb],by omega,by go_num,Qy.out,by rw[hR.out,←List.append_assoc];simpa using Qz.out⟩,?_⟩;first|omega|(simp[intOf];omega)
      ·have QA:¬(j:Int)<C:=by omega
       have QB:Hid (d.take j=d):=List.take_of_length_le (by have:=z.out;omega);go_wp2_with fail
       refine⟨⟨k+1,L,by omega,by go_num,m.out,?_⟩,?_⟩
       ·have:=D.out
        rw[QB.out]at this;rw[Qv.out,AL];exact this
       ·first|omega|(simp[intOf];omega)
    ·have QA:¬(k:Int)<n:=by omega
     have QC:Hid (xs.take k=xs):=List.take_of_length_le (by have:=E.out;omega);have l:=T.out;rw[QC.out]at l;obtain⟨q,a3,c3,e3,Qh,Qi,Qj,QD,Qk⟩:=kV (H.out.below A.out) l fun b S o=>H.out.kw.aG (l.own.lt b S).1 o;have P:rs.length≤1099511627776:=by
      have h1:=l.len;have h2:=sE xs d;have h4:xs.length*d.length≤1048576*1048576:=Nat.mul_le_mul (by have:=E.out;omega) (by have:=z.out;omega);omega
     obtain⟨rfl,rfl⟩:va=a3∧vc=c3:=by cases e3;exact⟨rfl,rfl⟩
     have Ql:=Lib.hid (sD len q g va rs.length vc (fun i=>rs.getD i 0) (meets xs d) wr l.len P Qi Qj Qk Qr.out);have Qm:=Lib.hid Qh;clear l Qi Qj QD Qk e3 Qh T;go_wp2_with fail
     refine Ql.out.mono ?_;rintro e W ⟨q2,v2,QE,rfl,Qn,Qo,l,r,Qp⟩;have hR:Hid (∃q v rs,Ending.returned v2= .returned v∧aK p q w.heap.size∧an q g W∧bZ q g w.heap.size W v rs (bS xs d)∧Below w.heap.size w W∧∀b,v.ownBlock=some b→∀o,q b o=none):=
      ⟨q2,v2,QE,rfl,Qm.out.trans Qn A.out.size,Qo,by rw[hm.out];exact⟨ie l.own A.out.size,l.len,l.cd⟩,A.out.trans (r.mono A.out.size),Qp⟩
     clear Qn Qo l r Qp Ql;go_wp2_with fail
     go_ret;exact hR.out
end Go.Proofs.YtgbklbbknehefaaGreatDoor
namespace TS
open Go Go.RowKit Go.Proofs.YtgbklbbknehefaaGreatDoor
inductive dE (len:Nat):U→Prop
 |mk {u:U}:Vt len u→Vt len (under u)→((bare u).k=11→∃y,(bare u).un= [y]∧y.k≠16)→(under u).k≠2→(under u).k≠14→(under u).k≠11→(under u).k≠15→(under u).k≠16→(∀e∈(under u).es,((under u).k=3∨(under u).k=5)→dE len e)→dE len u
theorem AP{P:Program}{w c:World}{X:Nat→Prop}(h:Kept X w c)(d:∀b,X b→¬Plain w b){v:Value}(f:eu P w v):eu P c v:=by
 obtain⟨t,g,b,i,j,e,h1,h2,h3,k,l,cs,T,a⟩:=f;refine⟨t,g,b,i,j,e,h1,h2,h3,k,l,cs,T,?_⟩;rw[h.block b (Array.getElem?_eq_some_iff.1 a).1 fun m=>d b m ⟨cs,T,a⟩];exact a
theorem an.kept{p:Pm}{g:Ge}{w a:World}{X:Nat→Prop}(h:an p g w)(k:Kept X w a)(c:∀b,X b→¬Plain w b)(d:¬X 5):an p g a:=
 h.own k (fun b e o=>by
  cases f:p b o with
  |none=>rfl
  |some v=>exact absurd (h.pl _ _ _ f) (c b e)) d
end TS
namespace Go.Proofs.YtgbklbbknehefaaGreatDoor
open Go.RowKit TS
theorem bN:KeyLaw Tryz.prog 44 (eu Tryz.prog):=zl Tryz.underlying44
theorem di{t b:Nat}{w:World}(h:bM t)(a:Plain w b):eu Tryz.prog w (.iface t (.pointer (some ⟨b,0,none⟩))):=by
 obtain⟨c,i,j,h1,h2,h3,d,e⟩:=h;exact⟨t,c,b,i,j,rfl,h1,h2,h3,d,e,a⟩
theorem dj(w:World):(zeroValue 4).run Tryz.prog w= .ok (.bool false) w:=by kernel_rfl
theorem AQ{p:Pm}{g:Ge}{u:U}{len:Nat}(x:Value)(w:World)(hw:KW p w)(hu:Vt len u)(m:TS.Node p g u x):Calls Tryz.prog 109 #[x] w fun e n=>e= .returned (.bool false)∧w=n:=by
 obtain⟨b,d,f,o⟩:=hu.strip m;obtain⟨r,s,rfl⟩:=m.val;have q:=Lib.hid (mw _ b _ p f o w hw);obtain⟨aa,i,a,_⟩:=hu.bare;have c:=(d.tag i a).2;have j:ba (bare u).k≠232:=by
  have l:=aa.aA;rcases kQ c.1 c.2 i l.1 l.2 a with h|h|h|h|h|h|h|h|h|h
  all_goals first|(rw[h];decide)|(rcases h with h|h|h<;>rw[h]<;>decide)
 generalize ba (bare u).k=t at*;have h1:∀W,(Instr.typeAssert (.iface t (.pointer (some ⟨b,0,none⟩))) 44 232 true).run Tryz.prog W= .ok (.tuple #[.pointer none,.bool false]) W:=fun W=>by rw[oj,if_neg j]
 clear d f o m hu hw c j;go_enter Tryz.func109,Tryz.ntmps109;go_wp2_with fail
 refine q.out.mono ?_;rintro e n ⟨rfl,rfl⟩;go_wp2_with fail
 go_ret;exact⟨rfl,rfl⟩
theorem sF(a:Option Addr)(n c:Nat)(w:World):Calls Tryz.prog 178 #[.string ByteArray.empty,.slice a n c] w fun e b=>(∃o,e= .returned (.pointer (some o)))∧Below w.heap.size w b:=by
 go_enter Tryz.func178,Tryz.ntmps178;go_wp2_with fail
 go_ret;exact⟨⟨_,rfl⟩,(Below.refl _ _).alloc (Nat.le_refl _) _⟩
theorem jQ(s:ByteArray)(b:(s.toList== [])=false)(a:Option Addr)(n c:Nat)(w:World):Calls Tryz.prog 178 #[.string s,.slice a n c] w fun e d=>(∃o,e= .returned (.pointer (some o)))∧Below w.heap.size w d:=by
 have f:(s.toList= [])=False:=by simpa using b
 go_enter Tryz.func178,Tryz.ntmps178;go_wp2_with fail
 go_ret;exact⟨⟨_,rfl⟩,(Below.refl _ _).alloc (Nat.le_refl _) _⟩
theorem sH(tb n c:Nat)(a:Option Addr)(f:Nat→Nat)(r:Bool)(w:World)(h2:w.cell? ⟨tb,2,none⟩=some (.slice a n c))(h3:w.cell? ⟨tb,3,none⟩=some (.bool r))(b:bj w a n f)(g:0<n)(h1:w.cell? ⟨f 0,1,none⟩=some .nilIface)(m:Option Nat):
 Calls Tryz.prog 179 #[.pointer (some ⟨tb,0,none⟩),.map m] w fun e d=>e= .returned (.bool r)∧Below w.heap.size w d:=by
 have hk:=aq.alloc w (.cells #[.map m] 275);have h:=Lib.hid (sf a n c f _ (b.cC hk) g (hk.cell h1));have i:=World.block_lt_of_cell? _ _ h2;clear b h1 hk;go_enter Tryz.func179,Tryz.ntmps179;go_wp2_with fail
 refine h.out.mono ?_;rintro e d ⟨rfl,rfl⟩;go_wp2_with fail
 go_ret;exact⟨rfl,(Below.refl _ _).alloc (Nat.le_refl _) _⟩
theorem sI(tb n c:Nat)(a:Option Addr)(f:Nat→Nat)(w:World)(h2:w.cell? ⟨tb,2,none⟩=some (.slice a n c))(b:bj w a n f):
 Calls Tryz.prog 180 #[.pointer (some ⟨tb,0,none⟩)] w fun e d=>e= .returned (.bool (decide (n=0)))∧w=d:=by
 have g:=Lib.hid (mr a n c f _ b);clear b;go_enter Tryz.func180,Tryz.ntmps180;go_wp2_with fail
 refine g.out.mono ?_;rintro e d ⟨rfl,rfl⟩;go_wp2_with fail
 go_ret;exact⟨rfl,rfl⟩
end Go.Proofs.YtgbklbbknehefaaGreatDoor
