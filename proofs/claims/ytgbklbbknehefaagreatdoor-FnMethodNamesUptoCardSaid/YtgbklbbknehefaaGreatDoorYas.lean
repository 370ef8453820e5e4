import Derived.Lib.IndexBytes
import Derived.Lib.Strings
import Derived.Test.YtgbklbbknehefaaGreatDoorYae
import Derived.Test.YtgbklbbknehefaaGreatDoorYar
set_option maxRecDepth 100000
set_option maxHeartbeats 8000000
set_option linter.all false
namespace TS
open Go
def rP(p:Pm):Prop:=∀c:Nat,65≤c→c≤90→p 5 c=some (.int .u8 160)
def bD(w:World):Prop:=∀c:Nat,65≤c→c≤90→w.cell? ⟨5,c,none⟩=some (.int .u8 160)
theorem bD.drewN{w:World}(h:bD w)(n:Nat):bD (w.drewN n):=fun c h1 h2=>by simpa using h c h1 h2
theorem rP.world{p:Pm}{w:World}(h:rP p)(hw:KW p w):bD w:=fun c h1 h2=>hw _ _ _ (h c h1 h2)
theorem rQ{s:ByteArray}(h:aL s=true):∃(c:UInt8)(r:List UInt8),s.data.toList=c::r∧65≤c.toNat∧c.toNat≤90:=by
 unfold aL at h;cases a:s.data.toList with
 |nil=>rw[a]at h;cases h
 |cons c r=>
  rw[a]at h;simp only[jv,j7,Bool.and_eq_true,decide_eq_true_eq]at h;obtain⟨⟨⟨h1,h2⟩,_⟩,_⟩:=h;exact⟨c,r,rfl,by simpa [UInt8.le_iff_toNat_le]using h1,by simpa [UInt8.le_iff_toNat_le]using h2⟩
end TS
namespace Go.Proofs.YtgbklbbknehefaaGreatDoor
open Go.RowKit TS
theorem zf(s:ByteArray)(c:UInt8)(r:List UInt8)(b:s.data.toList=c::r)(h1:65≤c.toNat)(h2:c.toNat≤90)(w:World):
 Calls Tryz.prog 194 #[.string s] w fun e h=>e= .returned (.tuple #[.int .i32 c.toNat,.int .i64 1])∧w=h:=by
 have d:s.data.toList[0]?=some c:=by rw[b];rfl
 have a:0<s.size:=by
  rw[Lib.size_eq];exact(List.getElem?_eq_some_iff.1 d).1
 have i:s.toList.isEmpty=false:=by rw[Lib.toList_data,b];rfl
 have f:(s.toList= [])=False:=by rw[Lib.toList_data,b];simp
 have j:s[0]'a=c:=by
  have:=Lib.data_getElem? s 0 a;rw[d]at this;exact(Option.some.inj this).symm
 have g:(0:Int)<(s.size:Int):=by omega
 have k:(c.toNat:Int)<128:=by omega
 clear b d;go_enter Tryz.func194,Tryz.ntmps194;go_wp2_with fail
 go_ret2;exact⟨rfl,rfl⟩
theorem zg(c:Nat)(h1:65≤c)(h2:c≤90)(w:World)(hT:bD w):Calls Tryz.prog 230 #[.int .i32 c] w fun e a=>e= .returned (.bool true)∧w=a:=by
 have b:=hT c h1 h2;have h3:(c:Int)≤255:=by omega
 have d:(c:Int)<256:=by omega
 have f:bits .and .u8 160 96=32:=by decide
 clear hT;go_enter Tryz.func230,Tryz.ntmps230;go_wp2_with fail
 go_ret;exact⟨rfl,rfl⟩
theorem mj(s:ByteArray)(d:aL s=true)(w:World)(hT:bD w):Calls Tryz.prog 216 #[.string s] w fun e a=>e= .returned (.bool true)∧w=a:=by
 obtain⟨c,r,f,h1,h2⟩:=rQ d;have g:=zf s c r f h1 h2;have h:=zg c.toNat h1 h2;have b:=Lib.hid hT;clear f h1 h2 d hT;go_enter Tryz.func216,Tryz.ntmps216;go_wp2_with fail
 refine(g _).mono ?_;rintro e a ⟨rfl,rfl⟩;go_wp2_with fail
 refine(h _ b.out).mono ?_;rintro e a ⟨rfl,rfl⟩;go_wp2_with fail
 go_ret;exact⟨rfl,rfl⟩
theorem zh(q:Option Addr)(s:ByteArray)(b:aL s=true)(w:World)(hT:bD w):Calls Tryz.prog 225 #[.pointer q,.string s] w fun e c=>e= .returned (.string s)∧w=c:=by
 have d:=mj s b;have a:=Lib.hid hT;clear b hT;go_enter Tryz.func225,Tryz.ntmps225;go_wp2_with fail
 refine(d _ a.out).mono ?_;rintro e c ⟨rfl,rfl⟩;go_wp2_with fail
 go_ret;exact⟨rfl,rfl⟩
theorem mn(b:Nat)(q:Option Addr)(s:ByteArray)(a:aL s=true)(w:World)(hT:bD w)(h1:w.cell? ⟨b,1,none⟩=some (.pointer q))(h2:w.cell? ⟨b,2,none⟩=some (.string s)):
 Calls Tryz.prog 202 #[.pointer (some ⟨b,0,none⟩)] w fun e c=>e= .returned (.string s)∧∃n,c=w.drewN n:=by
 have d:=Lib.hid fun n=>zh q s a (w.drewN n) (hT.drewN n);clear a hT;go_enter Tryz.func202,Tryz.ntmps202;go_wp2_with fail
 go_quiet (first|(go_at_call 225;exact Calls.quiet_of_same ((d.out _).mono (by rintro e c ⟨he,hw⟩;exact⟨he,hw.symm⟩))))
 go_wp2_with fail
 go_ret;exact⟨rfl,_,rfl⟩
end Go.Proofs.YtgbklbbknehefaaGreatDoor
