import Derived.Test.YtkochlhejabdcaaGreatDoorYaa
set_option maxRecDepth 100000
set_option maxHeartbeats 8000000
set_option linter.all false
namespace TS
open Go Go.RowKit
structure br where
 nm:ByteArray
 ptr:Bool
 sig:U
structure aC where
 un:U
 ms:List br
structure cM(p:Pm)(D:Dl)(ms:List br)(a:Option Addr):Prop where
 at':∀i(h:i<ms.length),∃b o,a=some ⟨b,o,none⟩∧p b (o+i*9)=some (.string ms[i].nm)∧p b (o+i*9+1)=some (.bool ms[i].ptr)∧
  ms[i].nm.size≤1048576∧∃a' c',c_ p b (o+i*9+2) ms[i].sig a' c'∧ai p D ms[i].sig a' c'
theorem cM.get{p:Pm}{D:Dl}{ms:List br}{b o:Nat}(h:cM p D ms (some ⟨b,o,none⟩))(i:Nat)(hi:i<ms.length):
 p b (o+i*9)=some (.string ms[i].nm)∧p b (o+i*9+1)=some (.bool ms[i].ptr)∧
 ms[i].nm.size≤1048576∧∃a' c',c_ p b (o+i*9+2) ms[i].sig a' c'∧ai p D ms[i].sig a' c':=by
 obtain⟨a,c,e,h1⟩:=h.at' i hi;simp only[Option.some.injEq,Addr.mk.injEq]at e;obtain⟨rfl,rfl,_⟩:=e;exact h1
theorem cM.bg{p:Pm}{D:Dl}{ms:List br}{a:Option Addr}(h:cM p D ms a)(c:0<ms.length):∃b o,a=some ⟨b,o,none⟩:=by
 obtain⟨d,f,e,_⟩:=h.at' 0 c;exact⟨d,f,e⟩
theorem cM.take{p:Pm}{D:Dl}{ms:List br}{a:Option Addr}(h:cM p D ms a)(k:Nat):cM p D (ms.take k) a:=by
 refine⟨fun i hi=> ?_⟩;rw[List.length_take]at hi;rw[List.getElem_take];exact h.at' i zo
theorem cM.sub{p q:Pm}{D:Dl}{ms:List br}{a:Option Addr}(h:cM p D ms a)(hk:Sub p q):cM q D ms a:=
 ⟨fun i hi=>let⟨b,o,e,h1,c,d,a',c',h7,hu⟩:=h.at' i hi;⟨b,o,e,hk _ _ _ h1,hk _ _ _ c,d,a',c',h7.sub hk,ai.sub hk _ hu⟩⟩
structure ca(p:Pm)(D:Dl)(ds:List aC):Prop where
 spot:∀x,D.a=some x→x.spot=none
 len:ds.length=D.len
 jV:D.len≤1048576
 at':∀i(h:i<ds.length),∃b o,D.a=some ⟨b,o,none⟩∧∃a c e d,c_ p b (o+i*8) ds[i].un a c∧p b (o+i*8+7)=some (.slice e ds[i].ms.length d)∧
  ai p D ds[i].un a c∧ds[i].ms.length≤d∧d≤1048576∧cM p D ds[i].ms e
theorem ca.bg{p:Pm}{D:Dl}{ds:List aC}(h:ca p D ds)(c:0<ds.length):∃b o,D.a=some ⟨b,o,none⟩:=by
 obtain⟨d,f,e,_⟩:=h.at' 0 c;exact⟨d,f,e⟩
theorem ca.get{p:Pm}{D:Dl}{ds:List aC}{b o:Nat}(h:ca p D ds)(g:D.a=some ⟨b,o,none⟩)(i:Nat)(hi:i<ds.length):
 ∃a c f d,c_ p b (o+i*8) ds[i].un a c∧p b (o+i*8+7)=some (.slice f ds[i].ms.length d)∧
 ai p D ds[i].un a c∧ds[i].ms.length≤d∧d≤1048576∧cM p D ds[i].ms f:=by
 obtain⟨j,k,e,h1⟩:=h.at' i hi;rw[g]at e;simp only[Option.some.injEq,Addr.mk.injEq]at e;obtain⟨rfl,rfl,_⟩:=e;exact h1
theorem ca.sub{p q:Pm}{D:Dl}{ds:List aC}(h:ca p D ds)(hk:Sub p q):ca q D ds:=
 ⟨h.spot,h.len,h.jV,fun i hi=>let⟨b,o,e,a,c,d,f,h7,g,hu,h1,j,hm⟩:=h.at' i hi;⟨b,o,e,a,c,d,f,h7.sub hk,hk _ _ _ g,ai.sub hk _ hu,h1,j,hm.sub hk⟩⟩
end TS
