/- Part of the proof: J0 J1 J2. -/
import Derived.Test.YtnclklfhjbkjhaaGreatDoorIb
set_option maxRecDepth 1000000
set_option maxHeartbeats 40000000
set_option linter.unusedSimpArgs false
namespace Go.Proofs.YtnclklfhjbkjhaaGreatDoor
open Go.RowKit
structure DW(cs:Array Value)(l:List Nat)(c d a b:Nat)(g:Option Nat)(dp:Int)(tr:Bool):Prop where
 size:cs.size=804
 nd:cs[800]? =some (.int .i64 (l.length:Int))
 dp:cs[801]? =some (.int .i64 dp)
 ng:cs[802]? =some (.bool false)
 tr:cs[803]? =some (.bool tr)
 any:∀i<800,∃c:Int,cs[i]? =some (.int .u8 c)∧0≤c∧c<256
 old:∀i (h:i<l.length),c≤i→i<d→cs[i]? =some (.int .u8 ((48+l[i]:Nat):Int))
 new:∀i,a≤i→i<b→i<800→∃f,f<10∧cs[i]? =some (.int .u8 ((48+f:Nat):Int))
 fst:∀f,g=some f→cs[0]? =some (.int .u8 ((48+f:Nat):Int))
 figs:gF l
 len:l.length≤800
theorem DC.toDW{cs:Array Value}{l:List Nat}{dp:Int}{tr:Bool}(h:DC cs l dp tr)(a:Nat):DW cs l 0 l.length a a none dp tr:=
 ⟨h.size,h.nd,h.dp,h.ng,h.tr,h.any,fun i hi _ _=>h.fig i hi,fun i h1 h2=>absurd h2 (by omega),fun f hf=>by simp at hf,h.figs,h.len⟩
theorem DW.less{cs:Array Value}{l:List Nat}{c d a b:Nat}{g:Option Nat}{dp:Int}{tr:Bool}(h:DW cs l c d a b g dp tr)(c' d' a' b':Nat)(hc:c≤c')(hd:d'≤d)(hab:∀j,a'≤j→j<b'→j<800→a≤j∧j<b):DW cs l c' d' a' b' g dp tr:=
 ⟨h.size,h.nd,h.dp,h.ng,h.tr,h.any,fun i hi h1 h2=>h.old i hi (by omega) (by omega),fun i h1 h2 h3=>h.new i (hab i h1 h2 h3).1 (hab i h1 h2 h3).2 h3,h.fst,h.figs,h.len⟩
theorem DW.setDp{cs:Array Value}{l:List Nat}{c d a b:Nat}{g:Option Nat}{dp:Int}{tr:Bool}(h:DW cs l c d a b g dp tr)(dp':Int):DW (cs.setIfInBounds 801 (.int .i64 dp')) l c d a b g dp' tr:=by
 have hs:=h.size;have hl:=h.len;refine⟨by simpa using h.size,?_,?_,?_,?_,?_,?_,?_,?_,h.figs,h.len⟩
 ·rw[qj (by decide)];exact h.nd
 ·rw[Array.getElem?_setIfInBounds_self_of_lt (by omega)]
 ·rw[qj (by decide)];exact h.ng
 ·rw[qj (by decide)];exact h.tr
 ·intro i hi;rw[qj (by omega)];exact h.any i hi
 ·intro i hi;rw[qj (by omega)];exact h.old i hi
 ·intro i h1 h2 h3;rw[qj (by omega)];exact h.new i h1 h2 h3
 ·intro f hf;rw[qj (by decide)];exact h.fst f hf
theorem DW.setTr{cs:Array Value}{l:List Nat}{c d a b:Nat}{g:Option Nat}{dp:Int}{tr:Bool}(h:DW cs l c d a b g dp tr)(tr':Bool):DW (cs.setIfInBounds 803 (.bool tr')) l c d a b g dp tr':=by
 have hs:=h.size;have hl:=h.len;refine⟨by simpa using h.size,?_,?_,?_,?_,?_,?_,?_,?_,h.figs,h.len⟩
 ·rw[qj (by decide)];exact h.nd
 ·rw[qj (by decide)];exact h.dp
 ·rw[qj (by decide)];exact h.ng
 ·rw[Array.getElem?_setIfInBounds_self_of_lt (by omega)]
 ·intro i hi;rw[qj (by omega)];exact h.any i hi
 ·intro i hi;rw[qj (by omega)];exact h.old i hi
 ·intro i h1 h2 h3;rw[qj (by omega)];exact h.new i h1 h2 h3
 ·intro f hf;rw[qj (by decide)];exact h.fst f hf
theorem DW.put{cs:Array Value}{l:List Nat}{c d a b:Nat}{g:Option Nat}{dp:Int}{tr:Bool}(h:DW cs l c d a b g dp tr)(i:Nat)(hi:i<800)(f:Nat)(hf:f<10)(c' d' a' b':Nat)
  (hcd:∀j,c'≤j→j<d'→j<l.length→c≤j∧j<d∧j≠i) (hab:∀j,a'≤j→j<b'→j<800→(a≤j∧j<b)∨j=i):
  DW (cs.setIfInBounds i (.int .u8 ((48+f:Nat):Int))) l c' d' a' b' (if i=0 then some f else g) dp tr:=by
 have hs:=h.size;have hl:=h.len;refine⟨by simpa using h.size,?_,?_,?_,?_,?_,?_,?_,?_,h.figs,h.len⟩
 ·rw[qj (by omega)];exact h.nd
 ·rw[qj (by omega)];exact h.dp
 ·rw[qj (by omega)];exact h.ng
 ·rw[qj (by omega)];exact h.tr
 ·intro j hj;by_cases e:i=j
  ·subst e;exact⟨_,by rw[Array.getElem?_setIfInBounds_self_of_lt (by omega)],by omega,by omega⟩
  ·rw[qj e];exact h.any j hj
 ·intro j hj h1 h2;obtain⟨g1,g2,g3⟩:=hcd j h1 h2 hj;rw[qj (by omega)];exact h.old j hj g1 g2
 ·intro j h1 h2 h3;by_cases e:i=j
  ·subst e;exact⟨f,hf,by rw[Array.getElem?_setIfInBounds_self_of_lt (by omega)]⟩
  ·rcases hab j h1 h2 h3 with g|g
   ·rw[qj e];exact h.new j g.1 g.2 h3
   ·exact absurd g.symm e
 ·intro x hx;by_cases e:i=0
  ·subst e;rw[if_pos rfl] at hx;rw[Array.getElem?_setIfInBounds_self_of_lt (by omega)];rw[Option.some.inj hx]
  ·rw[if_neg e] at hx;rw[qj e];exact h.fst x hx
theorem mQ{cs:Array Value}:∀n:Nat,(∀i,i<n→∃f,f<10∧cs[i]? =some (Value.int .u8 ((48+f:Nat):Int)))→
  ∃l:List Nat,l.length=n∧gF l∧∀i (h:i<l.length),cs[i]? =some (.int .u8 ((48+l[i]:Nat):Int))
 |0,_=>⟨[],rfl,fun _ h=>by simp at h,fun i h=>by simp at h⟩
 |n+1,h=>by
  obtain⟨l,h1,h2,h3⟩:=mQ n fun i hi=>h i (by omega)
  obtain⟨f,hf,hc⟩:=h n (by omega);refine⟨l++ [f],by simp[h1],?_,?_⟩
  ·intro x hx;rcases List.mem_append.1 hx with hx|hx
   ·exact h2 x hx
   ·rw[List.mem_singleton.1 hx];exact hf
  ·intro i hi;by_cases e:i<l.length
   ·rw[List.getElem_append_left e];exact h3 i e
   ·have e':i=n:=by simp at hi;omega
    subst e';rw[hc,List.getElem_append_right (by omega)];simp[h1]
theorem DW.done{cs:Array Value}{l:List Nat}{c d b n:Nat}{g:Option Nat}{dp:Int}{tr:Bool}(h:DW cs l c d 0 b g dp tr)(hn:n≤b)(hn8:n≤800):
  ∃l':List Nat,l'.length=n∧(∀f,g=some f→0<n→∃t,l'=f::t)∧DC (cs.setIfInBounds 800 (.int .i64 (n:Int))) l' dp tr:=by
 have hs:=h.size;obtain⟨l',h1,h2,h3⟩:=mQ (cs:=cs) n fun i hi=>h.new i (Nat.zero_le _) (by omega) (by omega)
 refine⟨l',h1,?_,by simpa using h.size,?_,?_,?_,?_,?_,?_,h2,by omega⟩
 ·intro f hf h0;have e:=h.fst f hf;rw[h3 0 (by omega)] at e;simp only[Option.some.injEq,Value.int.injEq,true_and] at e;cases l' with
  |nil=>simp at h1;omega
  |cons x t=>exact⟨t,by simp at e;rw[show x=f by omega]⟩
 ·rw[Array.getElem?_setIfInBounds_self_of_lt (by omega),h1]
 ·rw[qj (by decide)];exact h.dp
 ·rw[qj (by decide)];exact h.ng
 ·rw[qj (by decide)];exact h.tr
 ·intro i hi;rw[qj (by omega)];exact h.any i hi
 ·intro i hi;rw[qj (by omega)];exact h3 i hi
def DV(w:World)(B:Nat)(l:List Nat)(c d a b:Nat)(g:Option Nat)(dp:Int)(tr:Bool):Prop:=∃cs,w.heap[B]? =some (.cells cs 263 (0,0))∧DW cs l c d a b g dp tr
theorem DM.toDV{w:World}{B:Nat}{l:List Nat}{dp:Int}{tr:Bool}(h:DM w B l dp tr)(a:Nat):DV w B l 0 l.length a a none dp tr:=by
 obtain⟨cs,h1,h2⟩:=h;exact⟨cs,h1,h2.toDW a⟩
theorem DV.drew{w:World}{B:Nat}{l:List Nat}{c d a b:Nat}{g:Option Nat}{dp:Int}{tr:Bool}(h:DV w B l c d a b g dp tr):DV w.drew B l c d a b g dp tr:=h
theorem DV.less{w:World}{B:Nat}{l:List Nat}{c d a b:Nat}{g:Option Nat}{dp:Int}{tr:Bool}(h:DV w B l c d a b g dp tr)(c' d' a' b':Nat)(hc:c≤c')(hd:d'≤d)(hab:∀j,a'≤j→j<b'→j<800→a≤j∧j<b):DV w B l c' d' a' b' g dp tr:=by
 obtain⟨cs,h1,h2⟩:=h;exact⟨cs,h1,h2.less c' d' a' b' hc hd hab⟩
theorem DV.setDp{w:World}{B:Nat}{l:List Nat}{c d a b:Nat}{g:Option Nat}{dp:Int}{tr:Bool}(h:DV w B l c d a b g dp tr)(dp':Int):DV (w.setCell ⟨B,801,none⟩ (.int .i64 dp')) B l c d a b g dp' tr:=by
 obtain⟨cs,h1,h2⟩:=h;exact⟨_,ag h1 _ _,h2.setDp dp'⟩
theorem DV.setTr{w:World}{B:Nat}{l:List Nat}{c d a b:Nat}{g:Option Nat}{dp:Int}{tr:Bool}(h:DV w B l c d a b g dp tr)(tr':Bool):DV (w.setCell ⟨B,803,none⟩ (.bool tr')) B l c d a b g dp tr':=by
 obtain⟨cs,h1,h2⟩:=h;exact⟨_,ag h1 _ _,h2.setTr tr'⟩
theorem DV.put{w:World}{B:Nat}{l:List Nat}{c d a b:Nat}{g:Option Nat}{dp:Int}{tr:Bool}(h:DV w B l c d a b g dp tr)(i:Nat)(hi:i<800)(f:Nat)(hf:f<10)(c' d' a' b':Nat)
  (hcd:∀j,c'≤j→j<d'→j<l.length→c≤j∧j<d∧j≠i) (hab:∀j,a'≤j→j<b'→j<800→(a≤j∧j<b)∨j=i):
  DV (w.setCell ⟨B,i,none⟩ (.int .u8 ((48+f:Nat):Int))) B l c' d' a' b' (if i=0 then some f else g) dp tr:=by
 obtain⟨cs,h1,h2⟩:=h;exact⟨_,ag h1 _ _,h2.put i hi f hf c' d' a' b' hcd hab⟩
theorem DV.done{w:World}{B:Nat}{l:List Nat}{c d b n:Nat}{g:Option Nat}{dp:Int}{tr:Bool}(h:DV w B l c d 0 b g dp tr)(hn:n≤b)(hn8:n≤800):
  ∃l':List Nat,l'.length=n∧(∀f,g=some f→0<n→∃t,l'=f::t)∧DM (w.setCell ⟨B,800,none⟩ (.int .i64 (n:Int))) B l' dp tr:=by
 obtain⟨cs,h1,h2⟩:=h;obtain⟨l',g1,g2,g3⟩:=h2.done hn hn8;exact⟨l',g1,g2,_,ag h1 _ _,g3⟩
theorem DV.facts{w:World}{B:Nat}{l:List Nat}{c d a b:Nat}{g:Option Nat}{dp:Int}{tr:Bool}(h:DV w B l c d a b g dp tr):
  w.cell? ⟨B,800,none⟩=some (.int .i64 (l.length:Int))∧w.cell? ⟨B,801,none⟩=some (.int .i64 dp)∧w.cell? ⟨B,803,none⟩=some (.bool tr)∧(∀o,w.frozen? ⟨B,o,none⟩=false)∧(∀i (h:i<l.length),c≤i→i<d→w.cell? ⟨B,i,none⟩=some (.int .u8 ((48+l[i]:Nat):Int)))∧(∀i<800,∃x:Int,w.cell? ⟨B,i,none⟩=some (.int .u8 x))∧l.length≤800:=by
 obtain⟨cs,h1,h2⟩:=h;refine⟨?_,?_,?_,fun o=>ae h1 o,?_,?_,h2.len⟩
 ·rw[ab h1];exact h2.nd
 ·rw[ab h1];exact h2.dp
 ·rw[ab h1];exact h2.tr
 ·intro i hi h3 h4;rw[ab h1];exact h2.old i hi h3 h4
 ·intro i hi;obtain⟨x,hx,-,-⟩:=h2.any i hi;exact⟨x,by rw[ab h1];exact hx⟩
theorem zm{k:Nat}(hk:k≤60):min ((k:Nat):Int).toNat 64=k:=by
 rw[Int.toNat_natCast];omega
theorem cC{k:Nat}(hk:k≤60):2^k≤1152921504606846976:=by
 have:=Nat.pow_le_pow_right (n:=2) (by decide) hk;exact Nat.le_trans this (by decide)
theorem ee(n k:Nat):(n:Int) /2^k=((n/2^k:Nat):Int):=by
 rw[Int.natCast_ediv];congr 1
theorem sy{n k:Nat}(hn:n<18446744073709551616)(hk:k≤60):bits .and .u64 (n:Int) ((2:Int) ^k-1)=((n%2^k:Nat):Int):=by
 have hp:0<2^k:=Nat.pow_pos (by decide);have h60:=cC hk;have e:(2:Int) ^k-1=((2^k-1:Nat):Int):=by
  rw[Int.natCast_sub (by omega)];simp
 rw[e,u64_and_nat n _ hn (by omega),Nat.and_two_pow_sub_one_eq_mod]
structure FA(k a r n:Nat):Prop where
 lt:n<10*2^k
 zero:r=0→n=0
 pos:0<r→10^ (r-1)≤n
 one:r=1→n=a
theorem FA.start(k a:Nat):FA k a 0 0:=⟨Nat.mul_pos (by decide) (Nat.pow_pos (by decide)),fun _=>rfl,fun h=>absurd h (by decide),fun h=>absurd h (by decide)⟩
theorem FA.step{k a r n d:Nat}(h:FA k a r n)(hn:n<2^k)(hd:d<10)(ha:0<a)(h0:r=0→d=a):FA k a (r+1) (n*10+d):=by
 refine⟨by omega,fun e=>absurd e (by omega),fun _=>?_,fun e=>?_⟩
 ·rw[Nat.add_sub_cancel];rcases Nat.eq_zero_or_pos r with e|e
  ·rw[e,h.zero e,h0 e];simp;omega
  ·obtain⟨m,rfl⟩:∃m,r=m+1:=⟨r-1,by omega⟩;have:=h.pos e;rw[Nat.add_sub_cancel] at this;rw[Nat.pow_succ];omega
 ·have e0:r=0:=by omega
  rw[h.zero e0,h0 e0];omega
theorem FA.ten{k a r n:Nat}(h:FA k a r n)(hn:n<2^k)(h0:0<r):FA k a (r+1) (n*10):=by
 refine⟨by omega,fun e=>absurd e (by omega),fun _=>?_,fun e=>absurd e (by omega)⟩;rw[Nat.add_sub_cancel];obtain⟨m,rfl⟩:∃m,r=m+1:=⟨r-1,by omega⟩;have:=h.pos h0;rw[Nat.add_sub_cancel] at this;rw[Nat.pow_succ];omega
theorem FA.bound{k a r n:Nat}(h:FA k a r n)(hk:k≤60):r≤20∧n<18446744073709551616:=by
 have h60:=cC hk;have hl:=h.lt;refine⟨?_,by omega⟩;rcases Nat.eq_zero_or_pos r with e|e
 ·omega
 ·rcases Nat.lt_or_ge 20 r with g|g
  ·have h1:=h.pos e;have h2:10^20≤10^ (r-1):=Nat.pow_le_pow_right (by decide) (by omega);have h3:(10:Nat) ^20=100000000000000000000:=by decide
   omega
  ·exact g
theorem FA.go{k a r n:Nat}(h:FA k a r n)(hk:k≤60)(hn:n<2^k):n*10+9<18446744073709551616∧r≤19:=by
 have h60:=cC hk;refine⟨by omega,?_⟩;rcases Nat.eq_zero_or_pos r with e|e
 ·omega
 ·rcases Nat.lt_or_ge 19 r with g|g
  ·have h1:=h.pos e;have h2:10^19≤10^ (r-1):=Nat.pow_le_pow_right (by decide) (by omega);have h3:(10:Nat) ^19=10000000000000000000:=by decide
   omega
  ·exact g
theorem FA.first{k a r n:Nat}(h:FA k a r n)(hk:0<k)(ha:0<a)(hn:¬n<2^k):0<n/2^k∧n/2^k<10∧0<r∧(r=1→n/2^k<a):=by
 have hp:0<2^k:=Nat.pow_pos (by decide);have hl:=h.lt;refine⟨Nat.div_pos (by omega) hp,by rw[Nat.div_lt_iff_lt_mul hp];exact hl,?_,fun e=>?_⟩
 ·rcases Nat.eq_zero_or_pos r with e|e
  ·have:=h.zero e;omega
  ·exact e
 ·rw[h.one e];exact Nat.div_lt_self ha (by
   have:2^1≤2^k:=Nat.pow_le_pow_right (by decide) hk;omega)
theorem mn{n d:Nat}{x:Int}(hx:x=((48+d:Nat):Int))(hn:n*10+9<18446744073709551616)(hd:d<10):
  IntKind.u64.wrap (IntKind.u64.wrap (IntKind.u64.wrap ((n:Int) *10)+IntKind.u64.wrap x) -48)=((n*10+d:Nat):Int):=by
 simp only[IntKind.wrap_u64];subst hx;omega
theorem mm{n:Nat}(hn:n*10+9<18446744073709551616):IntKind.u64.wrap ((n:Int) *10)=((n*10:Nat):Int):=by
 simp only[IntKind.wrap_u64];omega
theorem c8{q:Nat}(hq:q<10):IntKind.u64.wrap ((q:Int)+48)=((48+q:Nat):Int)∧IntKind.u8.wrap ((48+q:Nat):Int)=((48+q:Nat):Int):=by
 rw[IntKind.wrap_u64,IntKind.wrap_u8'];omega
theorem sr{k n:Nat}(hk:k≤60):n%2^k*10+9<18446744073709551616:=by
 have h60:=cC hk;have:=Nat.mod_lt n (Nat.pow_pos (n:=k) (show 0<2 by decide));omega
theorem ro{k n:Nat}(hk:k≤60)(h:n<10*2^k):n<18446744073709551616:=by
 have h60:=cC hk;omega
theorem qG{k:Nat}(hk:k≤60):IntKind.u64.wrap ((2:Int) ^k)=((2:Int) ^k-1)+1∧IntKind.u64.wrap ((2:Int) ^k-1)=(2:Int) ^k-1:=by
 have h60:=cC hk;have hp:0<2^k:=Nat.pow_pos (by decide);have e:(2:Int) ^k=((2^k:Nat):Int):=by simp
 rw[e,IntKind.wrap_u64,IntKind.wrap_u64];omega
theorem pm{k n d:Nat}(hd:d<10):n%2^k*10+d<10*2^k:=by
 have:=Nat.mod_lt n (Nat.pow_pos (n:=k) (show 0<2 by decide));omega
theorem pK{k n:Nat}(h:n<10*2^k):n/2^k<10:=by
 rw[Nat.div_lt_iff_lt_mul (Nat.pow_pos (by decide))];exact h
structure LB(w n:Nat):Prop where
 lt:n<10^w
 ge:0<w→10^ (w-1)≤n
theorem LB.step{w n:Nat}(h:LB w n)(hn:0<n):∃v,w=v+1∧LB v (n/10)∧(v=0→n%10=n):=by
 have hw:0<w:=by
  rcases Nat.eq_zero_or_pos w with e|e
  ·have:=h.lt;rw[e] at this;simp at this;omega
  ·exact e
 obtain⟨v,rfl⟩:∃v,w=v+1:=⟨w-1,by omega⟩;have h1:=h.lt;rw[Nat.pow_succ] at h1;refine⟨v,rfl,⟨by omega,fun hv=>?_⟩,fun e=>?_⟩
 ·obtain⟨u,rfl⟩:∃u,v=u+1:=⟨v-1,by omega⟩;have h2:=h.ge hw;rw[Nat.add_sub_cancel,Nat.pow_succ] at h2;rw[Nat.add_sub_cancel];omega
 ·subst e;simp at h1;omega
theorem LB.none{w n:Nat}(h:LB w n)(hn:n=0):w=0:=by
 rcases Nat.eq_zero_or_pos w with e|e
 ·exact e
 ·have:=h.ge e;have:0<10^ (w-1):=Nat.pow_pos (by decide);omega
theorem LB.ofCount{k d:Nat}{c l:List Nat}(hc:Cheat k d c)(hl:gF l)(a:Nat)(l':List Nat)(e:l=a::l')(ha:0<a):LB (tV d l c) (bM k l 0):=
 ⟨(jj hc hl a l' e ha).1,(jj hc hl a l' e ha).2⟩
theorem sW{k:Nat}{l:List Nat}{a:Nat}{l':List Nat}(e:l=a::l')(ha:0<a)(hk:0<k)(h0:bM k l 0=0):a< (bM k l 1+a*2^k) %10:=by
 have hs:=jC k l 0 (by rw[e];simp);have e0:l[0]'(by rw[e];simp)=a:=by subst e;rfl
 rw[h0,e0] at hs;have h2:2^1≤2^k:=Nat.pow_le_pow_right (by decide) hk;have h3:a*2^1≤a*2^k:=Nat.mul_le_mul_left _ h2;rw[Nat.zero_add] at hs;generalize bM k l 1=X at*
 generalize a*2^k=Y at*
 omega
theorem Cheat.small{k d:Nat}{c:List Nat}(h:Cheat k d c)(hk:k≤60):d≤19∧c.length≤61:=by
 have h60:=cC hk;have h1:=h.lo;have h2:=h.len;refine⟨?_,by omega⟩;rcases Nat.lt_or_ge 19 d with g|g
 ·have h2:10^19≤10^ (d-1):=Nat.pow_le_pow_right (by decide) (by omega);have h3:(10:Nat) ^19=10000000000000000000:=by decide
  omega
 ·exact g
theorem wU(d:Nat)(l c:List Nat):tV d l c≤d:=by unfold tV;split<;>omega
end Go.Proofs.YtnclklfhjbkjhaaGreatDoor
namespace Go.Proofs.YtnclklfhjbkjhaaGreatDoor
open Tryz
open Go.RowKit
def zy(b a:Nat)(dp:Int)(w':World):Prop:=∃ (f:Nat) (t:List Nat) (dp':Int) (tr':Bool),DM w' b (f::t) dp' tr'∧0<f∧dp-19≤dp'∧dp'≤dp∧(dp'=dp→f<a)
def xe(v f:Nat):Option Nat:=if v=0 then none else some f
theorem pE(v f:Nat)(d:Nat)(h:v=0→d=f):(if v=0 then some d else xe v f)=xe (v+1) f:=by
 unfold xe;by_cases e:v=0
 ·rw[if_pos e,if_neg (by omega),h e]
 ·rw[if_neg e,if_neg e,if_neg (by omega)]
theorem eK(b k a:Nat)(l l':List Nat)(dp:Int)(tr:Bool)(w:World)(hl:l=a::l')(ha:0<a)(hk0:0<k)(hk:k≤60)(hdp0: -100000000≤dp)(hdp1:dp≤100000000)(hd:DM w b l dp tr):
  Calls prog 207 #[.pointer (some ⟨b,0,none⟩),.int .u64 (k:Int)] w (fun en w'=>en= .returned (.tuple #[])∧Fr (· =b) w w'∧zy b a dp w'):=by
 have HD:=Z hd;have HL:=Z hl;have hlp:0<l.length:=by rw[hl];simp
 have h0a:∀ (h:0<l.length),l[0]=a:=fun h=>by subst hl;rfl
 have H0:=Z h0a;clear hd hl h0a;go_enter func207,ntmps207;go_upto_block 0 with fail;go_cut [4,6] (fun s4 s6 wr=>wr=w∧∃r n:Nat,s4= .int .i64 (r:Int)∧s6= .int .u64 (n:Int)∧Hid (FA k a r n∧¬n<2^k))
 case first=>
  obtain⟨f0,-,-,-,-,fd,fl⟩:=HD.facts;have FD:=Z fd;clear fd;go_wp2_with fail;go_loopw [4,6] (fun s4 s6 wr=>wr=w∧∃r n:Nat,s4= .int .i64 (r:Int)∧s6= .int .u64 (n:Int)∧r≤l.length∧Hid (FA k a r n)) (fun s4 _ _=>match s4 with| .int _ i=>l.length-i.toNat|_=>0)
  case atStart=>exact⟨rfl,0,0,rfl,rfl,Nat.zero_le _,Z (FA.start k a)⟩
  case round=>
   obtain⟨rfl,r,n,rfl,rfl,hr,HF⟩:=hrel;have hrz:(r:Int)≤800:=by omega
   by_cases hn:n<2^k
   ·have q:((n:Int) /2^k==0)=true:=by
     rw[ee,Nat.div_eq_of_lt hn];rfl
    by_cases h2:r<l.length
    ·have h2z:¬ (r:Int)≥(l.length:Int):=by omega
     have f:=FD r h2;have hfig:=HD.out;obtain⟨d,hdl⟩:∃d,d=l[r]:=⟨_,rfl⟩;have hd10:d<10:=by
      obtain⟨cs,-,hc⟩:=HD.out;rw[hdl];exact hc.figs _ (List.getElem_mem h2)
     rw[←hdl] at f;have HN:=Z (HF.step hn hd10 ha (by intro e;subst e;rw[hdl];exact H0.out _));obtain⟨x,hx⟩:∃x,x=((48+d:Nat):Int):=⟨_,rfl⟩;have HW:=Z (mn hx (HF.go hk hn).1 hd10);rw[←hx] at f;clear hx hdl hfig hd10;go_wp2_with fail;refine⟨⟨by trivial,r+1,n*10+d,by simp,by rw[HW.out],by omega,HN⟩,?_⟩;simp only;omega
    ·have h2z:(r:Int)≥(l.length:Int):=by omega
     have hr0:0<r:=by omega
     have hn0:0<n:=Nat.lt_of_lt_of_le (Nat.pow_pos (by decide)) (HF.pos hr0);have qn:((n:Int) ==0)=false:=bf (by omega);clear q;have hqq:((n:Int) /2^k==0)=true:=by
      rw[ee,Nat.div_eq_of_lt hn];rfl
     go_wp2_with fail;clear hqq;go_loopw [4,6] (fun s4 s6 wr'=>wr'=wr∧∃r n:Nat,s4= .int .i64 (r:Int)∧s6= .int .u64 (n:Int)∧0<r∧0<n∧Hid (FA k a r n)) (fun _ s6 _=>match s6 with| .int _ i=>2^k-i.toNat|_=>0)
     case atStart=>exact⟨rfl,r,n,rfl,rfl,hr0,hn0,HF⟩
     case round=>
      obtain⟨rfl,r,n,rfl,rfl,hr0,hn0,HF⟩:=hrel;by_cases hn:n<2^k
      ·have q:((n:Int) /2^k==0)=true:=by
        rw[ee,Nat.div_eq_of_lt hn];rfl
       have hrz:(r:Int)≤800:=by have:=(HF.go hk hn).2;omega
       have hw:=mm (HF.go hk hn).1;have HN:=Z (HF.ten hn hr0);go_wp2_with fail;refine⟨⟨by trivial,r+1,n*10,by simp,by first|rfl|simp,by omega,by omega,HN⟩,?_⟩;have e:((n:Int) *10).toNat=n*10:=by omega
       simp only[e,Int.toNat_natCast];omega
      ·have q:((n:Int) /2^k==0)=false:=by
        rw[ee];have:0<n/2^k:=Nat.div_pos (by omega) (Nat.pow_pos (by decide));exact bf (by omega)
       go_wp2_with fail;go_meet;exact⟨rfl,r,n,rfl,rfl,Z ⟨HF,hn⟩⟩
   ·have q:((n:Int) /2^k==0)=false:=by
     rw[ee];have:0<n/2^k:=Nat.div_pos (by omega) (Nat.pow_pos (by decide));exact bf (by omega)
    go_wp2_with fail;go_meet;exact⟨rfl,r,n,rfl,rfl,Z ⟨HF,hn⟩⟩
 case rest=>
  obtain⟨ew,r0,n0,rfl,rfl,HF⟩:=hcut;have ew':=ew.symm;clear ew;subst ew';obtain⟨f0,f1,-,-,ff,-,fl⟩:=HD.facts;have hb:=HF.1.bound hk;have hr20:(r0:Int)≤20:=by omega
  have hfst:=HF.1.first hk0 ha HF.2;have hr1:0< (r0:Int):=by omega
  have ff1:=ff 801;obtain⟨F,hF⟩:∃F,F=n0/2^k:=⟨_,rfl⟩;rw[←hF] at hfst;have HFST:=Z hfst;clear hfst ff;have HV:=Z ((HD.toDV 0).setDp (dp- ((r0:Int) -1)));obtain⟨D,hD⟩:∃D,D=dp- ((r0:Int) -1):=⟨_,rfl⟩;rw[←hD] at HV;obtain⟨M,hM⟩:∃M,M=(2:Int) ^k-1:=⟨_,rfl⟩;have hm:=qG hk;rw[←hM] at hm;have hm1:=hm.1;have hm2:=hm.2;have HM:Hid (∀n:Nat,n<18446744073709551616→bits .and .u64 (n:Int) M=((n%2^k:Nat):Int)):=Z fun n hn=>by rw[hM];exact sy hn hk
  clear hm hM;have HA:Hid (Fr (· =b) w (w.setCell ⟨b,801,none⟩ (.int .i64 D))):=Z ((Fr.refl _).setIn _ rfl);have HE:=Z hD;go_upto_block 4 with fail;rw[←hD];clear hm1 hm2 f0 f1 ff1 hD;generalize w.setCell ⟨b,801,none⟩ (.int .i64 D)=wd at HV HA ⊢;go_cut [5,6] (fun s5 s6 wr=>∃v n:Nat,s5= .int .i64 (v:Int)∧s6= .int .u64 (n:Int)∧v≤800∧Hid (Fr (· =b) w wr)∧Hid (DV wr b l 800 0 0 v (xe v F) D tr)∧Hid (n<10*2^k∧(v=0→n/2^k=F)))
  case first=>
   go_wp2_with fail;go_loopw [4,5,6] (fun s4 s5 s6 wr=>∃r v n:Nat,s4= .int .i64 (r:Int)∧s5= .int .i64 (v:Int)∧s6= .int .u64 (n:Int)∧v<r∧v≤800∧r≤800∧Hid (Fr (· =b) w wr)∧Hid (DV wr b l r l.length 0 v (xe v F) D tr)∧Hid (n<10*2^k∧(v=0→n/2^k=F))) (fun s4 _ _ _=>match s4 with| .int _ i=>800-i.toNat|_=>0)
   case atStart=>exact⟨r0,0,n0,rfl,rfl,rfl,by omega,by omega,by omega,HA,Z (HV.less r0 l.length 0 0 (Nat.zero_le _) qr (fun j h1 h2 h3=>absurd h2 (by omega))),Z ⟨HF.1.lt,fun _=>hF.symm⟩⟩
   case round=>
    obtain⟨r,v,n,rfl,rfl,rfl,hvr,hv8,hr8,HFr,HDV,HN⟩:=hrel;obtain⟨f0,-,-,ff,fo,fa,fl⟩:=HDV.facts;have hrz:(r:Int)≤800:=by omega
    have hvz:(v:Int) < (r:Int):=by omega
    by_cases h2:r<l.length
    ·have h2z:(r:Int) < (l.length:Int):=by omega
     have f:=fo r h2 qr h2;obtain⟨d,hdl⟩:∃d,d=l[r]:=⟨_,rfl⟩;have hd10:d<10:=by
      obtain⟨cs,-,hc⟩:=HDV.out;rw[hdl];exact hc.figs _ (List.getElem_mem h2)
     rw[←hdl] at f;obtain⟨x,hx⟩:∃x,x=((48+d:Nat):Int):=⟨_,rfl⟩;have HW:=Z (mn (n:=n%2^k) hx (sr hk) hd10);rw[←hx] at f;have hand:=HM n (ro hk HN.1);obtain⟨m,hm⟩:∃m,m=n%2^k:=⟨_,rfl⟩;have HN2:=Z (pm (k:=k) (n:=n) hd10);rw[←hm] at HW hand HN2;obtain⟨q,hq⟩:∃q,q=n/2^k:=⟨_,rfl⟩;have hq10:q<10:=by rw[hq];exact pK HN.1
     have hdiv:(n:Int) /2^k=(q:Int):=by rw[ee,hq]
     have HP:=Z (HDV.put v (by omega) q hq10 (r+1) l.length 0 (v+1) (fun j h1 h2 _=>by omega) (fun j h1 h2 _=>by omega));rw[pE v F q (fun e=>by rw[hq];exact HN.2 e)] at HP;have hw1:=(c8 hq10).1;have hw2:=(c8 hq10).2;obtain⟨X,hX⟩:∃X,X=((48+q:Nat):Int):=⟨_,rfl⟩;rw[←hX] at HP hw1 hw2;obtain⟨y,fy⟩:=fa v (by omega);have ffv:=ff v;clear hx hdl hd10 hm hq hq10 hX ff fo fa;go_wp2_with fail;refine⟨⟨r+1,v+1,m*10+d,by simp,by simp,by rw[HW.out],by omega,by omega,by omega,Z (HFr.setIn _ rfl),HP,Z ⟨HN2.out,fun e=>absurd e (by omega)⟩⟩,?_⟩;simp only;omega
    ·have h2z:¬ (r:Int) < (l.length:Int):=by omega
     clear ff fo fa;go_wp2_with fail;go_meet;exact⟨v,n,rfl,rfl,hv8,HFr,Z (HDV.less 800 0 0 v hr8 (Nat.zero_le _) (fun j h1 h2 h3=>⟨h1,h2⟩)),HN⟩
  case rest=>
   obtain⟨v,n,rfl,rfl,hv8,HFr,HDV,HN⟩:=hcut;go_wp2_with fail;go_loopw [5,6] (fun s5 s6 wr=>∃ (v n:Nat) (tr':Bool),s5= .int .i64 (v:Int)∧s6= .int .u64 (n:Int)∧v≤800∧Hid (Fr (· =b) w wr)∧Hid (DV wr b l 800 0 0 v (xe v F) D tr')∧Hid (n<10*2^k∧(v=0→n/2^k=F))) (fun _ s6 _=>match s6 with| .int _ i=>tm k i.toNat|_=>0)
   case atStart=>exact⟨v,n,tr,rfl,rfl,hv8,HFr,HDV,HN⟩
   case round=>
    obtain⟨v,n,tr',rfl,rfl,hv8,HFr,HDV,HN⟩:=hrel;obtain⟨f0,-,f3,ff,-,fa,fl⟩:=HDV.facts;by_cases h0:0<n
    ·have h0z:(n:Int) >0:=by omega
     have hand:=HM n (ro hk HN.1);obtain⟨m,hm⟩:∃m,m=n%2^k:=⟨_,rfl⟩;have hm9:=mm (n:=m) (by rw[hm];exact sr hk);have HN2:=Z (pm (k:=k) (n:=n) (d:=0) (by decide));have HT:=Z (ua (k:=k) h0);rw[←hm] at hand HN2 HT;have hT:((m*10:Nat):Int).toNat=m*10:=Int.toNat_natCast _;obtain⟨q,hq⟩:∃q,q=n/2^k:=⟨_,rfl⟩;have hq10:q<10:=by rw[hq];exact pK HN.1
     have hdiv:(n:Int) /2^k=(q:Int):=by rw[ee,hq]
     have hqF:Hid (v=0→q=F):=Z fun e=>by rw[hq];exact HN.2 e
     by_cases h8:v<800
     ·have h8z:(v:Int) <800:=by omega
      have HP:=Z (HDV.put v h8 q hq10 800 0 0 (v+1) (fun j h1 h2 _=>by omega) (fun j h1 h2 _=>by omega));rw[pE v F q hqF.out] at HP;have hw1:=(c8 hq10).1;have hw2:=(c8 hq10).2;obtain⟨X,hX⟩:∃X,X=((48+q:Nat):Int):=⟨_,rfl⟩;rw[←hX] at HP hw1 hw2;obtain⟨y,fy⟩:=fa v h8;have ffv:=ff v;clear hm hq hq10 hX ff fa f0 f3;go_wp2_with fail;refine⟨⟨v+1,m*10,tr',by simp,by first|rfl|simp,by omega,Z (HFr.setIn _ rfl),HP,Z ⟨HN2.out,fun e=>absurd e (by omega)⟩⟩,?_⟩
      first|exact HT.out|(simp only[hT,Int.toNat_natCast];exact HT.out)|(have e:((m:Int) *10).toNat=m*10:=(by omega);simp only[e,Int.toNat_natCast];exact HT.out)
     ·have h8z:¬ (v:Int) <800:=by omega
      have ffv:=ff 803;by_cases hq0:0<q
      ·have hq0z:(q:Int) >0:=by omega
       have HP:=Z (HDV.setTr true);clear hm hq hq10 ff fa f0;go_wp2_with fail;refine⟨⟨v,m*10,true,by simp,by first|rfl|simp,by omega,Z (HFr.setIn _ rfl),HP,Z ⟨HN2.out,fun e=>absurd e (by omega)⟩⟩,?_⟩
       first|exact HT.out|(simp only[hT,Int.toNat_natCast];exact HT.out)|(have e:((m:Int) *10).toNat=m*10:=(by omega);simp only[e,Int.toNat_natCast];exact HT.out)
      ·have hq0z:¬ (q:Int) >0:=by omega
       clear hm hq hq10 ff fa f0;go_wp2_with fail;refine⟨⟨v,m*10,tr',by simp,by first|rfl|simp,by omega,HFr,HDV,Z ⟨HN2.out,fun e=>absurd e (by omega)⟩⟩,?_⟩
       first|exact HT.out|(simp only[hT,Int.toNat_natCast];exact HT.out)|(have e:((m:Int) *10).toNat=m*10:=(by omega);simp only[e,Int.toNat_natCast];exact HT.out)
    ·have h0z:¬ (n:Int) >0:=by omega
     have hv0:0<v:=by
      rcases Nat.eq_zero_or_pos v with e|e
      ·have h1:=HN.2 e;have h2:=HFST.1;rw[show n=0 by omega,Nat.zero_div] at h1;omega
      ·exact e
     obtain⟨l2,hl2,hl3,hdm⟩:=HDV.done (Nat.le_refl v) hv8;obtain⟨t2,ht2⟩:=hl3 F (by unfold xe;rw[if_neg (by omega)]) hv0;have HDM:=Z hdm;have HL2:=Z ht2;have ff0:=ff 800;clear hdm ht2 hl3 hl2 ff fa f3;go_wp2_with (go_at_call 213;refine(iO b l2 D tr' _ HDM).mono ?_;rintro e w2 ⟨rfl,hF2,nn,dp',hnn,hdm2,hdd,hpf⟩);refine bodyPost_end (results_none results207 _ _ _) rfl ⟨rfl,Fr.trans (HFr.setIn _ rfl) hF2,?_⟩;have hn0:=hpf F t2 HL2 HFST.1;obtain⟨u,rfl⟩:∃u,nn=u+1:=⟨nn-1,by omega⟩;rw[HL2.out,List.take_succ_cons] at hdm2;have hdd':dp'=D:=hdd.resolve_right (by omega);subst hdd';exact⟨F,_,_,_,hdm2,HFST.1,by rw[HE.out];omega,by rw[HE.out];omega,fun e=>HFST.2.2.2 (by rw[HE.out] at e;omega)⟩
end Go.Proofs.YtnclklfhjbkjhaaGreatDoor
