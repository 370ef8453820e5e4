import Derived.Test.YtdkmnkjhhhmglaaGreatDoorYag
import Derived.Test.YtdkmnkjhhhmglaaGreatDoorYah
set_option maxRecDepth 100000
set_option maxHeartbeats 8000000
set_option linter.all false
namespace Go.Proofs.YtdkmnkjhhhmglaaGreatDoor
open Go.RowKit TS
theorem aA{a b:Int}(h:a≠b):(a==b)=false:=by simp[h]
theorem dX{a b:Int}(h:a=b):(a==b)=true:=by simp[h]
theorem qh(a b c d e f g:Value)(w:World):(Instr.field 25 (.agg #[a,b,c,d,e,f,g]) 0).run Tryz.prog w= .ok a w:=by kernel_rfl
theorem iA(p:Pm)(D:Dl)(dc:Nat)(u:U)(pos f:Nat)(a:Option Addr)(c:Nat)(w:World)(x:Pl D.len u pos f)(C:f≤2)(g:f≠0)(h:u.k≠12)(i:u.k≠13)(hu:ak p D u a c)(hw:KW p w):
 Calls Tryz.prog 22 #[.slice D.a D.len dc,.agg #[.int .i64 u.k,.int .i64 u.n,.int .i64 u.m,.bool u.v,.string u.nm,.string u.tg,.slice a u.es.length c]] w (RB (isIface u) w):=by
 have j:=fun W hk=>jv p D dc u pos f a c W x C g h i hu hk;by_cases b:(under u).k=10
 ·have l:Hid (true=isIface u):=by simp[Hid,isIface,b]
  have bU:=dX b;clear b h i g x;generalize under u=v at*;go_enter Tryz.func22,Tryz.ntmps22;go_wp2_with fail
  refine(j _ (hw.alloc _)).mono ?_;rintro z o ⟨q,A,c1,rfl,B,r,s,aa⟩;clear j;have t:=qh;go_wp2_with fail
  go_ret;have e:Below w.heap.size w o:=Below.trans ((Below.refl w.heap.size w).alloc (Nat.le_refl _) _) (aa.mono (by simp));exact⟨_,rfl,l,e⟩
 ·by_cases d:(under u).k=16
  ·have l:Hid (true=isIface u):=by simp[Hid,isIface,d]
   have bU:=aA b;have y:=dX d;clear b h i g x d;generalize under u=v at*;go_enter Tryz.func22,Tryz.ntmps22;go_wp2_with fail
   refine(j _ (hw.alloc _)).mono ?_;rintro z o ⟨q,A,c1,rfl,B,r,s,aa⟩;clear j;have t:=qh;go_wp2_with fail
   go_ret;have e:Below w.heap.size w o:=Below.trans ((Below.refl w.heap.size w).alloc (Nat.le_refl _) _) (aa.mono (by simp));exact⟨_,rfl,l,e⟩
  ·have l:Hid (false=isIface u):=by simp[Hid,isIface,d,b]
   have bU:=aA b;have y:=aA d;clear b h i g x d;generalize under u=v at*;go_enter Tryz.func22,Tryz.ntmps22;go_wp2_with fail
   refine(j _ (hw.alloc _)).mono ?_;rintro z o ⟨q,A,c1,rfl,B,r,s,aa⟩;clear j;have t:=qh;go_wp2_with fail
   go_ret;have e:Below w.heap.size w o:=Below.trans ((Below.refl w.heap.size w).alloc (Nat.le_refl _) _) (aa.mono (by simp));exact⟨_,rfl,l,e⟩
theorem kj(n m:Int)(w:World):Calls Tryz.prog 62 #[.int .i64 n,.int .i64 m] w (RQ (decide (0≤n)&&decide (n<m)) w):=by
 obtain⟨r,hr⟩:∃r,r=(decide (0≤n)&&decide (n<m)):=⟨_,rfl⟩
 rw[←hr];by_cases b:0≤n
 ·by_cases h1:n<m
  ·have a:Hid (true=r):=by simp[Hid,b,h1,hr]
   clear hr;go_enter Tryz.func62,Tryz.ntmps62;go_wp2_with fail
   go_ret;exact⟨_,rfl,a,rfl⟩
  ·have a:Hid (false=r):=by simp[Hid,b,hr];omega
   have c:m≤n:=by omega
   clear hr;go_enter Tryz.func62,Tryz.ntmps62;go_wp2_with fail
   go_ret;exact⟨_,rfl,a,rfl⟩
 ·have a:Hid (false=r):=by simp[Hid,hr];omega
  have d:n<0:=by omega
  clear hr;go_enter Tryz.func62,Tryz.ntmps62;go_wp2_with fail
  go_ret;exact⟨_,rfl,a,rfl⟩
def gP(i:Nat)(c:UInt8):Bool:=lU c||(97≤c&&c≤122&&i !=0)
theorem nY(s:ByteArray):aM s=true↔(∀j(h:j<s.size),gP j s[j]=true)∧1≤s.size∧s.size≤8:=by
 obtain⟨⟨l⟩⟩:=s;show kU l=true↔(∀j(h:j<l.length),gP j l[j]=true)∧1≤l.length∧l.length≤8;cases l with
 |nil=>simp[kU]
 |cons c r=>
  simp only[kU,Bool.and_eq_true,decide_eq_true_eq,List.all_eq_true,List.length_cons];constructor
  ·rintro⟨⟨h1,h2⟩,h3⟩
   refine⟨fun j h=> ?_,by omega,by omega⟩;cases j with
   |zero=>simp[gP,h1]
   |succ j=>
    have:=h2 _ (List.getElem_mem (by simpa using h:j<r.length));simp only[pR,List.getElem_cons_succ,gP]at this⊢;simpa using this
  ·rintro⟨h1,_,h3⟩
   refine⟨⟨?_,?_⟩,by omega⟩
   ·have:=h1 0 (by simp);simpa [gP]using this
   ·intro x a
    obtain⟨j,b,rfl⟩:=List.getElem_of_mem a;have:=h1 (j+1) (by simpa using b);simp only[pR,List.getElem_cons_succ,gP]at this⊢;simpa using this
theorem tI(i:Nat)(c:UInt8):gP i c=true↔((65:Int)≤(c.toNat:Int)∧(c.toNat:Int)≤90)∨((97:Int)≤(c.toNat:Int)∧(c.toNat:Int)≤122∧i≠0):=by
 simp only[gP,lU,Bool.or_eq_true,Bool.and_eq_true,decide_eq_true_eq,UInt8.le_iff_toNat_le,bne_iff_ne];have a:(65:UInt8).toNat=65:=rfl;have b:(90:UInt8).toNat=90:=rfl;have d:(97:UInt8).toNat=97:=rfl;have e:(122:UInt8).toNat=122:=rfl;rw[a,b,d,e];omega
theorem mh(s:ByteArray)(w:World)(y:(s.size:Int)≤1048576):Calls Tryz.prog 56 #[.string s] w (RQ (aM s) w):=by
 obtain⟨r,hr⟩:∃r,r=aM s:=⟨_,rfl⟩
 rw[←hr];have d:=Lib.hid hr;clear hr;go_enter Tryz.func56,Tryz.ntmps56;go_wp2_with fail
 go_loop [7] (fun i=> ∃k:Nat,k≤s.size∧i= .int .i64 k∧∀j(h:j<k)(l:j<s.size),gP j s[j]=true) (fun i=>s.size- (intOf i).toNat)
 case atStart=>exact⟨0,Nat.zero_le _,rfl,fun j h=>by omega⟩
 case round=>
  obtain⟨k,hk,rfl,f⟩:=hrel;by_cases m:k<s.size
  ·have z:=s[k].toNat_lt
   have b:=Lib.hid f;clear f;by_cases hO:gP k s[k]=true
   ·have c:Hid (∀j(h:j<k+1)(l:j<s.size),gP j s[j]=true):=fun j h l=>by
     by_cases e:j=k
     ·subst e;exact hO
     ·exact b.out j (by omega) l
    rw[tI]at hO;rcases hO with⟨h1,h2⟩|⟨h1,h2,h3⟩
    ·have u:¬(s[k].toNat:Int)<65:=by omega
     have n:¬90<(s[k].toNat:Int):=by omega
     have o:(s[k].toNat:Int)<97:=by omega
     go_wp2_with fail
     go_round
     case rel=>exact⟨k+1,by omega,by go_num,c.out⟩
     case measure=>simp[intOf];omega
    ·have u:¬(s[k].toNat:Int)<65:=by omega
     have n:90<(s[k].toNat:Int):=by omega
     have o:((k:Int)==0)=false:=by simp;omega
     go_wp2_with fail
     go_round
     case rel=>exact⟨k+1,by omega,by go_num,c.out⟩
     case measure=>simp[intOf];omega
   ·have hF:Hid (false=r):=by
     unfold Hid;cases a:r
     ·rfl
     ·rw[d.out,nY]at a
      exact absurd (a.1 k m) hO
    rw[tI]at hO;by_cases h1:(s[k].toNat:Int)<65
    ·have o:(s[k].toNat:Int)<97:=by omega
     go_wp2_with fail
     go_ret;exact⟨_,rfl,hF,rfl⟩
    ·have h2:90<(s[k].toNat:Int):=by omega
     by_cases h3:(s[k].toNat:Int)<97
     ·clear hO
      go_wp2_with fail
      go_ret;exact⟨_,rfl,hF,rfl⟩
     ·by_cases u:(s[k].toNat:Int)≤122
      ·have n:k=0:=by omega
       have o:((k:Int)==0)=true:=by simp;omega
       clear hO n;have p:(97:Int)≤s[k].toNat:=by omega
       go_wp2_with fail
       go_ret;exact⟨_,rfl,hF,rfl⟩
      ·have p:(97:Int)≤s[k].toNat:=by omega
       have v:(122:Int)<s[k].toNat:=by omega
       clear hO;go_wp2_with fail
       go_ret;exact⟨_,rfl,hF,rfl⟩
  ·have g:k=s.size:=by omega
   have b:=Lib.hid f;clear f;by_cases h1:1≤s.size
   ·have q:(1:Int)≤s.size:=by omega
    by_cases x:s.size≤8
    ·have t:(s.size:Int)≤8:=by omega
     have hT:Hid (true=r):=by
      unfold Hid;rw[d.out];symm;rw[nY];exact⟨fun j h=>b.out j (by omega) h,h1,x⟩
     clear g;go_wp2_with fail
     go_ret;exact⟨_,rfl,hT,rfl⟩
    ·have t:¬(s.size:Int)≤8:=by omega
     have hT:Hid (false=r):=by
      unfold Hid;cases a:r
      ·rfl
      ·rw[d.out,nY]at a;omega
     clear g;go_wp2_with fail
     go_ret;exact⟨_,rfl,hT,rfl⟩
   ·have q:(s.size:Int)<1:=by omega
    have hT:Hid (false=r):=by
     unfold Hid;cases a:r
     ·rfl
     ·rw[d.out,nY]at a;omega
    clear g;go_wp2_with fail
    go_ret;exact⟨_,rfl,hT,rfl⟩
def c_(p:Pm)(D:Dl)(dc:Nat)(u:U):Prop:=
 ∀(q:Pc)(a:Option Addr)(c:Nat)(w:World),ak p D u a c→KW p w→
  Calls Tryz.prog 31 #[.slice D.a D.len dc,.agg #[.int .i64 u.k,.int .i64 u.n,.int .i64 u.m,.bool u.v,.string u.nm,.string u.tg,.slice a u.es.length c],.agg #[.int .i64 q.d,.bool q.v,.bool q.t]] w (RB (ah D.len u q .type) w)
theorem zl(p:Pm)(D:Dl)(dc:Nat)(u:U)(q:Pc)(a:Option Addr)(c:Nat)(w:World)(j:c_ p D dc u)(hu:ak p D u a c)(hw:KW p w)(i f:Nat)
 (h1:w.cell? ⟨i,0,none⟩=some (.slice D.a D.len dc))(h2:w.cell? ⟨f,0,none⟩=some (.int .i64 q.d))(h3:w.cell? ⟨f,1,none⟩=some (.bool q.v))(r:w.cell? ⟨f,2,none⟩=some (.bool q.t)):
 Calls Tryz.prog 114 #[.agg #[.int .i64 u.k,.int .i64 u.n,.int .i64 u.m,.bool u.v,.string u.nm,.string u.tg,.slice a u.es.length c],.pointer (some ⟨i,0,none⟩),.pointer (some ⟨f,0,none⟩)] w (RB (!ah D.len u q .type) w):=by
 have b1:=World.block_lt_of_cell? _ _ h1;have l:=World.block_lt_of_cell? _ _ h2;simp only at b1 l;go_enter Tryz.func114,Tryz.ntmps114;go_wp2_with fail
 refine(j q a c _ hu (hw.alloc _)).mono ?_;rintro s o ⟨b,rfl,g,aa⟩;have e:Below w.heap.size w o:=Below.trans ((Below.refl w.heap.size w).alloc (Nat.le_refl _) _) (aa.mono (by simp));cases b
 ·have h:Hid (true= !ah D.len u q .type):=by have:=g.out;simp[Hid,←this]
  clear g aa;go_wp2_with fail
  go_ret;exact⟨_,rfl,h,e⟩
 ·have h:Hid (false= !ah D.len u q .type):=by have:=g.out;simp[Hid,←this]
  clear g aa;go_wp2_with fail
  go_ret;exact⟨_,rfl,h,e⟩
theorem jw(p:Pm)(D:Dl)(dc:Nat)(es:List U)(q:Pc)(a:Option Addr)(c:Nat)(w:World)(m:∀e∈es,c_ p D dc e)(o:aj p D es a)(r:(es.length:Int)≤1048576)(hw:KW p w):
 Calls Tryz.prog 63 #[.slice D.a D.len dc,.slice a es.length c,.agg #[.int .i64 q.d,.bool q.v,.bool q.t]] w (RB (es.all fun e=>ah D.len e q .type) w):=by
 have s:∀args w,(callFunc 114 args).run Tryz.prog w= .ok (.enter 114 args) w:=ep Tryz.func114 (by kernel_rfl) rfl;have u:=Lib.hid fun W (x:KW p W) lb H=>mg p D es a c 114 lb (fun e=> !ah D.len e q .type) W x o r s H;have n:es.any (fun e=> !ah D.len e q .type)= !es.all fun e=>ah D.len e q .type:=lW _ _;have g:=Lib.hid n;clear n;have y:∀(fn:Fn)(first cap:Array Value)(w:World),(Instr.makeFunc fn first cap).run Tryz.prog w= .ok (.func fn first cap) w:=fun _ _ _ _=>rfl;go_enter Tryz.func63,Tryz.ntmps63;go_wp2_with fail
 refine(u.out _ ((hw.alloc _).alloc _) _ ?_).mono ?_
 ·intro i hi W a' c' f k
  refine zl p D dc es[i] q a' c' W (m _ (List.getElem_mem hi)) k (((hw.alloc _).alloc _).grown f) _ _ (cell_kept f (by simp)) (cell_kept f (by simp)) (cell_kept f (by simp)) (cell_kept f (by simp))
 rintro A z ⟨b,rfl,j,aa⟩;clear m;have h:Below w.heap.size w z:=Below.trans (((Below.refl w.heap.size w).alloc (Nat.le_refl _) _).alloc (by simp) _) (aa.mono (by simp;omega));cases b
 ·have l:Hid (true=es.all fun e=>ah D.len e q .type):=by have:=j.out;rw[g.out]at this;unfold Hid;simpa using this
  clear j aa;go_wp2_with fail
  go_ret;exact⟨_,rfl,l,h⟩
 ·have l:Hid (false=es.all fun e=>ah D.len e q .type):=by have:=j.out;rw[g.out]at this;unfold Hid;simpa using this
  clear j aa;go_wp2_with fail
  go_ret;exact⟨_,rfl,l,h⟩
end Go.Proofs.YtdkmnkjhhhmglaaGreatDoor
