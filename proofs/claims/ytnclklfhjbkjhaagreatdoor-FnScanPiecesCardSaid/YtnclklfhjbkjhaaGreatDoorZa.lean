/- Part of the proof: Z0 T0 P0 P1. -/
import Derived.Lib.Hide
import Derived.Lib.RuneBytes
import Derived.ProofKit
import Derived.OrdersHeld
set_option maxRecDepth 1000000
set_option maxHeartbeats 40000000
namespace Go.Proofs.YtnclklfhjbkjhaaGreatDoor
open Go.RowKit
theorem Z{p:Prop}(h:p):Hid p:=h
theorem bf{α:Type} [BEq α] [LawfulBEq α]{a b:α}(h:a≠b):(a==b)=false:=beq_eq_false_iff_ne.2 h
theorem qh{P:Program}{fn:Func}{R:Ending→World→Prop}{a:Act}{w:World}{v:Value}(hr:(results fn a.tmps).run P w= .ok v w)(hd:a.defers=[])(hR:R (.returned v) w):bodyPost P fn R .ret a w:=bodyPost_ret hr hd hR
theorem qi(b:ByteArray):b.toList=b.data.toList:=ByteArray.toList_eq b
theorem qj{α:Type _}{xs:Array α}{i j:Nat}(h:i≠j){a:α}:(xs.setIfInBounds i a)[j]? =xs[j]? :=Array.getElem?_setIfInBounds_ne h
theorem qk{α:Type _}{l m:List α}:(l++m).length=l.length+m.length:=List.length_append
theorem ql(w:World)(o:Obj):(w.alloc o).heap[w.heap.size]? =some o:=heap_alloc_new w o
theorem qo{a:ByteArray}{b e:Nat}:(a.extract b e).size=min e a.size-b:=ByteArray.size_extract
theorem qp(l:List UInt8):({data:=l.toArray}:ByteArray).toList=l:=ByteArray.toList_mk l
theorem qr{n:Nat}:n≤n:=Nat.le_refl n
theorem qs{α:Type _}(l m n:List α):l++m++n=l++ (m++n):=List.append_assoc l m n
end Go.Proofs.YtnclklfhjbkjhaaGreatDoor
namespace Go.Proofs.YtnclklfhjbkjhaaGreatDoor
open Go
def wR:List Bool→List Nat→Option Nat
 |false::_,i::_=>some i
 |true::r,_::l=>wR r l
 |_,_=>none
def r64:List Nat:=[0,1,2,3,4,5,6,7,8,9,10,11,12,13,14,15,16,17,18,19,20,21,22,23,24,25,26,27,28,29,30,31,32,33,34,35,36,37,38,39,40,41,42,43,44,45,46,47,48,49,50,51,52,53,54,55,56,57,58,59,60,61,62,63,64,65,66,67,68,69]
theorem dP{P:Program}{ops:Array Oper}{Q:Exit→Act→World→Prop}{md:Region.Mode}{S:World→Prop}{i:Nat}{oi:Oper}{v:Value}{fuel:Nat}{listed:Array Bool}{a:Act}{w:World}(s:Nat)(_:wR (listed.toList.drop s) (r64.drop s)=some i)(hi:ops[i]? =some oi)
  (hc:(Region.noSelect ops&& (Region.free md ops listed i&& (Region.ready md ops listed).contains i))=true) (hw:Region.wanted oi (yielded ops a.tmps)=true)
  (hQ:∀c a w,Q (.panic c) (a.put oi.dst v) w→Q (.panic c) a w) (hy:∀w,S w→(execOp a.eval oi).run P w= .ok (.value v) w) (hS:S w)
  (h:wpAnyH P md ops Q S fuel (listed.setIfInBounds i true) (a.put oi.dst v) w):wpAnyH P md ops Q S (fuel+1) listed a w:=by
 rw[Bool.and_eq_true,Bool.and_eq_true] at hc;exact wpAnyH_take hi hc.1 hc.2.1 hc.2.2 hQ (.inl ⟨hw,hy⟩) hS h
theorem vI{P:Program}{ops:Array Oper}{Q:Exit→Act→World→Prop}{md:Region.Mode}{S:World→Prop}{i:Nat}{oi:Oper}{fuel:Nat}{listed:Array Bool}{a:Act}{w:World}(s:Nat)(_:wR (listed.toList.drop s) (r64.drop s)=some i)(hi:ops[i]? =some oi)
  (hc:(Region.noSelect ops&& (Region.free md ops listed i&& (Region.ready md ops listed).contains i))=true) (hw:Region.wanted oi (yielded ops a.tmps)=false)
  (hQ:∀c a w,Q (.panic c) (a.put oi.dst undef) w→Q (.panic c) a w) (hS:S w)
  (h:wpAnyH P md ops Q S fuel (listed.setIfInBounds i true) (a.put oi.dst undef) w):wpAnyH P md ops Q S (fuel+1) listed a w:=by
 rw[Bool.and_eq_true,Bool.and_eq_true] at hc;exact wpAnyH_take hi hc.1 hc.2.1 hc.2.2 hQ (.inr ⟨hw,rfl⟩) hS h
theorem qa{α:Type _}{xs:List α}{i:Nat}(h:i<xs.toArray.size):xs.toArray[i]=xs[i]'(by simpa using h):=rfl
theorem qb{α:Type _}(a:α)(as:List α)(h:0< (a::as).length):(a::as)[0]'h=a:=rfl
theorem qc{α:Type _}(a:α)(as:List α)(i:Nat)(h:i+1< (a::as).length):(a::as)[i+1]'h=as[i]'(Nat.lt_of_succ_lt_succ h):=rfl
theorem qd{α:Type _}(l:List α)(i:Nat)(a:α):l.toArray.setIfInBounds i a=(l.set i a).toArray:=List.setIfInBounds_toArray ..
theorem qe{α:Type _}{x:α}{xs:List α}{a:α}:(x::xs).set 0 a=a::xs:=rfl
theorem qf{α:Type _}{x:α}{xs:List α}{i:Nat}{a:α}:(x::xs).set (i+1) a=x::xs.set i a:=rfl
end Go.Proofs.YtnclklfhjbkjhaaGreatDoor
namespace Go.Proofs.YtnclklfhjbkjhaaGreatDoor
abbrev enc(r:Int):List UInt8:=Go.Lib.encodeRune r
def aO(l:List Int):List UInt8:=l.flatMap enc
structure Ps where
 ln:Int
 cl:Int
def aC(p:Ps)(c:Int):Ps:=if c=10 then⟨p.ln+1,0⟩ else if c=9 then⟨p.ln,p.cl+(8-p.cl.tmod 8)⟩ else⟨p.ln,p.cl+1⟩
def bB(c:Int):Bool:=c==95|| (decide (97≤c) &&decide (c≤122)) || (decide (65≤c) &&decide (c≤90))
def aV(c:Int):Bool:=decide (48≤c) &&decide (c≤57)
def eU(c:Int):Bool:=aV c|| (decide (97≤c) &&decide (c≤102)) || (decide (65≤c) &&decide (c≤70))
def dE(c:Int):Bool:=decide (48≤c) &&decide (c≤55)
def iA(c:Int):Bool:=c==10||c==13||c==9||c==12||c==11||c==32
structure Rd where
 out:List Int
 ps:Ps
 rest:List Int
def fP:List Int→List Int→Ps→Rd
 | [],acc,p=>⟨acc,p,[]⟩
 |c::r,acc,p=>if bB c||aV c then fP r (acc++ [c]) (aC p c) else⟨acc,p,c::r⟩
def bV:List Int→List Int→Bool→Ps→Rd
 | [],acc,_,p=>⟨acc,p,[]⟩
 |c::r,acc,e,p=>
  if(c==45||c==43) && !e then⟨acc,p,c::r⟩
  else if c==46||bB c||aV c||c==45||c==43 then bV r (acc++ [c]) (c==101||c==69) (aC p c)
  else⟨acc,p,c::r⟩
def bn:List Int→Ps→Rd
 | [],p=>⟨[],p,[]⟩
 |c::r,p=>if c=10 then⟨[],aC p c,r⟩ else bn r (aC p c)
def aM:List Int→Ps→Rd
 | [],p=>⟨[],p,[]⟩
 | [c],p=>⟨[],aC p c,[]⟩
 |c::d::r,p=>if c=42∧d=47 then⟨[],aC (aC p c) d,r⟩ else aM (d::r) (aC p c)
theorem lV:∀ (r acc:List Int) (p:Ps),(fP r acc p).rest.length≤r.length
 | [],_,_=>by simp[fP]
 |c::r,acc,p=>by
  unfold fP;split
  ·have:=lV r (acc++ [c]) (aC p c);simp;omega
  ·simp
theorem eQ:∀ (r acc:List Int) (e:Bool) (p:Ps),(bV r acc e p).rest.length≤r.length
 | [],_,_,_=>by simp[bV]
 |c::r,acc,e,p=>by
  unfold bV;split
  ·simp
  ·split
   ·have:=eQ r (acc++ [c]) (c==101||c==69) (aC p c);simp;omega
   ·simp
theorem dX:∀ (r:List Int) (p:Ps),(bn r p).rest.length≤r.length
 | [],_=>by simp[bn]
 |c::r,p=>by
  unfold bn;split
  ·simp
  ·have:=dX r (aC p c);simp;omega
theorem dy:∀ (r:List Int) (p:Ps),(aM r p).rest.length≤r.length
 | [],_=>by simp[aM]
 | [c],_=>by simp[aM]
 |c::d::r,p=>by
  unfold aM;split
  ·simp;omega
  ·have:=dy (d::r) (aC p c);simp at this ⊢;omega
def gC(c:UInt8):Option Nat:=
 if 48≤c∧c≤57 then some (c.toNat-48) else if 97≤c∧c≤122 then some (c.toNat-87) else if 65≤c∧c≤90 then some (c.toNat-55) else none
def ay(b:Nat):List UInt8→Nat→Option Nat
 | [],n=>some n
 |c::r,n=>match gC c with
  |none=>none
  |some d=>if d<b then ay b r (n*b+d) else none
def bA(b:Nat)(s:List UInt8):Option Nat:=if s=[] then none else ay b s 0
def cG(b:Nat)(s:List UInt8):Option Int:=
 match s with
 | []=>none
 |c::r=>
  if c=43 then(bA b r).bind fun n=>if n<2147483648 then some (n:Int) else none
  else if c=45 then(bA b r).bind fun n=>if n≤2147483648 then some (-(n:Int)) else none
  else(bA b s).bind fun n=>if n<2147483648 then some (n:Int) else none
structure Es where
 out:List UInt8
 rest:List Int
def dN(i:Int):UInt8:=UInt8.ofNat (i%256).toNat
def bsl:List UInt8:=[92]
def dt(c:Int)(r:List Int):Es:=
 match r with
 | []=>⟨bsl++enc c,[]⟩
 | [c1]=>⟨bsl++enc c++enc c1,[]⟩
 |c1::c2::r=>
  let h:=if eU c2 then enc c1++enc c2 else enc c1
  ⟨match cG 16 h with|none=>bsl++enc c++h|some i=>[dN i],if eU c2 then r else c2::r⟩
def b_(o:List UInt8):List UInt8:=match cG 8 o with|none=>bsl++o|some i=>if i>255 then bsl++o else[dN i]
def cu(c:Int)(r:List Int):Es:=
 match r with
 | []=>⟨bsl++enc c,[]⟩
 |c2::r=>
  if dE c2 then
   match r with
   | []=>⟨bsl++enc c++enc c2,[]⟩
   |c3::r=>if dE c3 then⟨b_ (enc c++enc c2++enc c3),r⟩ else⟨b_ (enc c++enc c2),c3::r⟩
  else⟨b_ (enc c),c2::r⟩
def da(c:Int)(n:Nat)(big:Bool)(r:List Int):List UInt8:=
 let u:=r.take n++List.replicate (n-r.length) 0
 (if r.length<n then bsl++enc c++aO r else[]) ++
  (match cG 16 (aO u) with
   |none=>bsl++enc c++aO u
   |some i=>if big∧(i>1114111∨i<0) then bsl++enc c++aO u else enc i)
def aU(c:Int)(r:List Int):Es:=
 if c=120∨c=88 then dt c r
 else if dE c then cu c r
 else if c=117 then⟨da c 4 false r,r.drop 4⟩
 else if c=85 then⟨da c 8 true r,r.drop 8⟩
 else if c=97 then⟨[7],r⟩
 else if c=98 then⟨[8],r⟩
 else if c=102 then⟨[12],r⟩
 else if c=110 then⟨[10],r⟩
 else if c=114 then⟨[13],r⟩
 else if c=116 then⟨[9],r⟩
 else if c=118 then⟨[11],r⟩
 else if c=92 then⟨[92],r⟩
 else if c=39 then⟨[39],r⟩
 else if c=34 then⟨[34],r⟩
 else if c=63 then⟨[63],r⟩
 else⟨bsl++enc c,r⟩
theorem sS(c:Int)(r:List Int):(dt c r).rest.length≤r.length:=by
 match r with
 | []=>simp[dt]
 | [c1]=>simp[dt]
 |c1::c2::r=>simp only[dt];split<;>simp<;>omega
theorem sa(c:Int)(r:List Int):(cu c r).rest.length≤r.length:=by
 match r with
 | []=>simp[cu]
 | [c2]=>simp only[cu];split<;>simp
 |c2::c3::r=>simp only[cu];split<;> (try split)<;>simp<;>omega
theorem gA(c:Int)(r:List Int):(aU c r).rest.length≤r.length:=by
 unfold aU;by_cases e:c=120∨c=88
 ·rw[if_pos e];exact sS c r
 rw[if_neg e];clear e;by_cases e:dE c=true
 ·rw[if_pos e];exact sa c r
 rw[if_neg e];clear e;by_cases e:c=117
 ·rw[if_pos e];exact Nat.le_trans (Nat.le_of_eq (List.length_drop ..)) (Nat.sub_le ..)
 rw[if_neg e];clear e;by_cases e:c=85
 ·rw[if_pos e];exact Nat.le_trans (Nat.le_of_eq (List.length_drop ..)) (Nat.sub_le ..)
 rw[if_neg e];clear e;by_cases e:c=97
 ·rw[if_pos e];exact Nat.le_refl _
 rw[if_neg e];clear e;by_cases e:c=98
 ·rw[if_pos e];exact Nat.le_refl _
 rw[if_neg e];clear e;by_cases e:c=102
 ·rw[if_pos e];exact Nat.le_refl _
 rw[if_neg e];clear e;by_cases e:c=110
 ·rw[if_pos e];exact Nat.le_refl _
 rw[if_neg e];clear e;by_cases e:c=114
 ·rw[if_pos e];exact Nat.le_refl _
 rw[if_neg e];clear e;by_cases e:c=116
 ·rw[if_pos e];exact Nat.le_refl _
 rw[if_neg e];clear e;by_cases e:c=118
 ·rw[if_pos e];exact Nat.le_refl _
 rw[if_neg e];clear e;by_cases e:c=92
 ·rw[if_pos e];exact Nat.le_refl _
 rw[if_neg e];clear e;by_cases e:c=39
 ·rw[if_pos e];exact Nat.le_refl _
 rw[if_neg e];clear e;by_cases e:c=34
 ·rw[if_pos e];exact Nat.le_refl _
 rw[if_neg e];clear e;by_cases e:c=63
 ·rw[if_pos e];exact Nat.le_refl _
 rw[if_neg e];clear e;exact Nat.le_refl _
structure Sr where
 out:List UInt8
 ps:Ps
 rest:List Int
def strF(q:Int)(r:List Int)(acc:List UInt8)(p:Ps):Sr:=
 match r with
 | []=>⟨acc,p,[]⟩
 |c::r'=>
  if c=q then⟨acc,aC p c,r'⟩
  else if c=92 then
   match r' with
   | []=>⟨acc++bsl,aC p c,[]⟩
   |d::r''=>strF q (aU d r'').rest (acc++ (aU d r'').out) (aC p c)
  else strF q r' (acc++enc c) (aC p c)
termination_by r.length
decreasing_by
 ·have:=gA d r'';simp;omega
 ·simp
theorem rt(q:Int):∀ (n:Nat) (r:List Int) (acc:List UInt8) (p:Ps),r.length≤n→(strF q r acc p).rest.length≤r.length:=by
 intro n
 induction n with
 |zero=>
  intro r acc p h;have:r=[]:=List.eq_nil_of_length_eq_zero (by omega);subst this;unfold strF;simp
 |succ n ih=>
  intro r acc p h;unfold strF;split
  ·simp
  ·rename_i c r';split
   ·simp
   ·split
    ·split
     ·simp
     ·rename_i d r'';have:=gA d r'';have:=ih (aU d r'').rest (acc++ (aU d r'').out) (aC p c) (by simp at h;omega);simp;omega
    ·have:=ih r' (acc++enc c) (aC p c) (by simp at h;omega);simp;omega
structure Lx where
 k:Int
 t:Option (List UInt8)
 pv:Ps
 ps:Ps
 rest:List Int
def jW(p:Ps)(pv:Ps)(r:List Int):Lx:=
 match r with
 | []=>⟨46,none,pv,p,[]⟩
 |d::r'=>if aV d then let x:=bV r' [46,d] false (aC p d);⟨65538,some (aO x.out),pv,x.ps,x.rest⟩ else⟨46,none,pv,p,d::r'⟩
def lexF(R:List Int)(p:Ps):Option Lx:=
 match R with
 | []=>none
 |c::r=>
  if iA c then lexF r (aC p c)
  else if c=46 then some (jW (aC p c) p r)
  else if bB c then let x:=fP r [c] (aC p c);some ⟨65539,some (aO x.out),p,x.ps,x.rest⟩
  else if aV c then let x:=bV r [c] false (aC p c);some ⟨65538,some (aO x.out),p,x.ps,x.rest⟩
  else if c=39∨c=34 then let x:=strF c r [] (aC p c);some ⟨65537,some x.out,p,x.ps,x.rest⟩
  else if c=47 then
   match r with
   | []=>some ⟨47,none,p,aC p c,[]⟩
   |d::r'=>
    if d=47 then lexF (bn r' (aC (aC p c) d)).rest (bn r' (aC (aC p c) d)).ps
    else if d=42 then lexF (aM r' (aC (aC p c) d)).rest (aM r' (aC (aC p c) d)).ps
    else some ⟨47,none,p,aC p c,d::r'⟩
  else some ⟨c,none,p,aC p c,r⟩
termination_by R.length
decreasing_by
 ·simp
 ·have:=dX r' (aC (aC p c) d);simp;omega
 ·have:=dy r' (aC (aC p c) d);simp;omega
theorem th(p pv:Ps)(r:List Int):(jW p pv r).rest.length≤r.length:=by
 unfold jW;split
 ·simp
 ·split
  ·rename_i d r' _;have:=eQ r' [46,d] false (aC p d);simp;omega
  ·simp
theorem m_:∀ (n:Nat) (R:List Int) (p:Ps) (x:Lx),R.length≤n→lexF R p=some x→x.rest.length<R.length:=by
 intro n
 induction n with
 |zero=>
  intro R p x h e;have:R=[]:=List.eq_nil_of_length_eq_zero (by omega);subst this;unfold lexF at e;cases e
 |succ n ih=>
  intro R p x h e;unfold lexF at e;split at e
  ·cases e
  ·rename_i c r;simp only[List.length_cons] at h ⊢;split at e
   ·have:=ih r _ x (by omega) e;omega
   ·split at e
    ·cases e;have:=th (aC p c) p r;omega
    ·split at e
     ·cases e;have:=lV r [c] (aC p c);simp;omega
     ·split at e
      ·cases e;have:=eQ r [c] false (aC p c);simp;omega
      ·split at e
       ·cases e;have:=rt c r.length r [] (aC p c) qr;simp;omega
       ·split at e
        ·split at e
         ·cases e;simp
         ·rename_i d r';simp only[List.length_cons] at h ⊢;split at e
          ·have h1:=dX r' (aC (aC p c) d);have:=ih _ _ x (by omega) e;omega
          ·split at e
           ·have h1:=dy r' (aC (aC p c) d);have:=ih _ _ x (by omega) e;omega
           ·cases e;simp
        ·cases e;simp
structure Sc where
 imp:Option (List (List UInt8))
 pub:Bool
 weak:Bool
 pkg:Option (List (List UInt8))
 errs:List Ps
 stk:List Int
 ds:Bool
 pl:Ps
 imports:List (List UInt8×Bool×Bool)
 name:List UInt8
def dC:List UInt8:=[105,109,112,111,114,116]
def cT:List UInt8:=[112,97,99,107,97,103,101]
def bX:List UInt8:=[112,117,98,108,105,99]
def dQ:List UInt8:=[119,101,97,107]
def fu(p:Ps):Ps:=⟨p.ln+1,p.cl+1⟩
def txt(x:Lx):List UInt8:=x.t.getD []
def bI(s:Sc)(x:Lx):Sc:=
 match s.imp with
 |none=>s
 |some l=>
  if x.k=65537 then{s with imp:=some (l++ [txt x])}
  else if x.k=65539∧l=[]∧(txt x=bX∨txt x=dQ) then{s with pub:=txt x==bX,weak:=txt x==dQ}
  else if l≠[] then{s with errs:=if x.k=59 then s.errs else s.errs++ [fu x.pv],imports:=s.imports++ [(l.flatten,s.pub,s.weak)],imp:=none}
  else{s with errs:=s.errs++ [fu x.pv],imp:=none}
def df:List UInt8:=[46]
def bU(s:Sc)(x:Lx):Sc:=
 match s.pkg with
 |none=>s
 |some l=>
  if x.k=65539 then{s with errs:=if l≠[]∧l.getLast?≠some df then s.errs++ [fu x.pv] else s.errs,pkg:=some (l++ [txt x])}
  else if x.k=46 then{s with errs:=if l=[]∨l.getLast?=some df then s.errs++ [fu x.pv] else s.errs,pkg:=some (l++ [df])}
  else if l≠[] then
   {s with errs:=(if x.k=59 then s.errs else s.errs++ [fu x.pv]) ++ (if l.getLast?=some df then[fu s.pl] else[]),name:=l.flatten,pkg:=none}
  else{s with errs:=s.errs++ [fu x.pv],pkg:=none}
def dM(k:Int):Int:=if k=40 then 41 else if k=123 then 125 else if k=91 then 93 else if k=60 then 62 else 0
def bQ(s:Sc)(x:Lx):Sc:=
 if x.k=40∨x.k=123∨x.k=91∨x.k=60 then{s with stk:=dM x.k::s.stk}
 else if x.k=41∨x.k=125∨x.k=93∨x.k=62 then(if s.stk.head?=some x.k then{s with stk:=s.stk.tail} else s)
 else if x.k=65539 then
  (if s.ds∧s.stk=[] then
   (if txt x=dC then{s with imp:=some [],pub:=false,weak:=false}
    else if txt x=cT then{s with pkg:=some []} else s)
   else s)
 else s
def bc(s:Sc)(x:Lx):Sc:=let s':=bQ (bU (bI s x) x) x;{s' with ds:=x.k==125||x.k==59,pl:=x.pv}
def bT(R:List Int)(p:Ps)(s:Sc):Sc×Bool:=
 match _h:lexF R p with
 |none=>(s,true)
 |some x=>if x.k=0 then(s,false) else bT x.rest x.ps (bc s x)
termination_by R.length
decreasing_by exact m_ R.length R p x qr (by assumption)
def lj:Sc:=⟨none,false,false,none,[],[],true,⟨0,0⟩,[],[]⟩
theorem kf{R:List Int}{p:Ps}{s:Sc}(h:lexF R p=none):bT R p s=(s,true):=by
 rw[bT];split
 ·rfl
 ·rename_i x e;rw[h] at e;cases e
theorem p_{R:List Int}{p:Ps}{s:Sc}{x:Lx}(h:lexF R p=some x)(hk:x.k=0):bT R p s=(s,false):=by
 rw[bT];split
 ·rename_i e;rw[h] at e;cases e
 ·rename_i y e;rw[h] at e;cases e;rw[if_pos hk]
theorem ei{R:List Int}{p:Ps}{s:Sc}{x:Lx}(h:lexF R p=some x)(hk:x.k≠0):bT R p s=bT x.rest x.ps (bc s x):=by
 rw[bT];split
 ·rename_i e;rw[h] at e;cases e
 ·rename_i y e;rw[h] at e;cases e;rw[if_neg hk]
def b8(c:Int):UInt8:=UInt8.ofNat c.toNat
def fG(l:List Int):List UInt8:=l.map b8
structure Pt where
 k:Int
 raw:List UInt8
 val:List UInt8
def escT:List (Int×UInt8):=[(97,7),(98,8),(102,12),(110,10),(114,13),(116,9),(118,11),(92,92),(39,39),(34,34),(63,63)]
def pW(n:Nat)(r:List Int):Option (List UInt8×Nat):=
 if r.length<n∨¬ (r.take n).all eU then none
 else match bA 16 (fG (r.take n)) with
  |none=>none
  |some v=>if(55296≤v∧v<57344)∨v>1114111 then none else some (enc v,n+1)
def gR(s:List Int):Option (List UInt8×Nat):=
 match s with
 | []=>none
 |d::r=>
  match escT.lookup d with
  |some b=>some ([b],1)
  |none=>
   if d=120∨d=88 then
    match r with
    | []=>none
    |c1::r2=>
     if eU c1 then
      match r2 with
      | []=>(bA 16 (fG [c1])).map fun v=>([UInt8.ofNat v],2)
      |c2::_=>if eU c2 then(bA 16 (fG [c1,c2])).map fun v=>([UInt8.ofNat v],3) else if c2=43∨c2=45 then none else(bA 16 (fG [c1])).map fun v=>([UInt8.ofNat v],2)
     else none
   else if d=117 then pW 4 r
   else if d=85 then pW 8 r
   else if dE d then
    let o (l:List Int):=(bA 8 (fG l)).bind fun v=>if v>255 then none else some ([UInt8.ofNat v],l.length)
    match r with
    | []=>o [d]
    |c2::r2=>if dE c2 then(match r2 with| []=>o [d,c2] |c3::_=>if dE c3 then o [d,c2,c3] else o [d,c2]) else o [d]
   else none
inductive StrS(q:Int):List Int→List UInt8→List Int→Prop where
 |done {r:List Int}:StrS q (q::r) [] r
 |chr {c:Int} {s r:List Int} {v:List UInt8}:c≠q→c≠92→0≤c→c<128→StrS q s v r→StrS q (c::s) (b8 c::v) r
 |esc {s r:List Int} {o v:List UInt8} {k:Nat}:gR s=some (o,k)→StrS q (s.drop k) v r→StrS q (92::s) (o++v) r
def bR(hex:Bool)(p c:Int):Bool:=bB c||aV c||c==46|| ((c==43||c==45) && !hex&& (p==101||p==69))
def tN(hex:Bool):Int→List Int→List Int→Prop
 |p,[],r=>∀c,r.head?=some c→bR hex p c=false
 |p,c::w,r=>bR hex p c=true∧tN hex c w r
def gG:List Int:=[59,44,46,47,58,61,45,40,41,123,125,91,93,60,62]
inductive LR:List Int→List Pt→Prop where
 |fin {t:Pt}:t.k=6→LR [] [t]
 |blank {c:Int} {r:List Int} {ts:List Pt}:c=32∨c=9∨c=10∨c=13→LR r ts→LR (c::r) ts
 |line {b r:List Int} {ts:List Pt}:(∀x∈b,x≠10)→(∀x,r.head?=some x→x=10)→LR r ts→LR (47::47:: (b++r)) ts
 |block {b r:List Int} {ts:List Pt}:(∀u v,b≠u++42::47::v)→LR r ts→LR (47::42:: (b++42::47::r)) ts
 |ident {c:Int} {w r:List Int} {t:Pt} {ts:List Pt}:bB c=true→(∀x∈w,(bB x||aV x)=true)→(∀x,r.head?=some x→(bB x||aV x)=false)→
   t.k=1→t.raw=fG (c::w)→LR r ts→LR (c:: (w++r)) (t::ts)
 |num {c:Int} {w r:List Int} {t:Pt} {ts:List Pt} (hex:Bool):aV c=true∨(c=46∧∃d w',w=d::w'∧aV d=true)→tN hex c w r→(hex=true→t.k=2)→t.k=2∨t.k=3→LR r ts→LR (c:: (w++r)) (t::ts)
 |str {q:Int} {s r:List Int} {v:List UInt8} {t:Pt} {ts:List Pt}:q=34∨q=39→StrS q s v r→t.k=4→t.val=v→LR r ts→LR (q::s) (t::ts)
 |sym {c:Int} {r:List Int} {t:Pt} {ts:List Pt}:c∈gG→(c=46→∀d,r.head?=some d→aV d=false)→(c=47→∀d,r.head?=some d→d≠47∧d≠42)→
   t.k=5→t.raw=[b8 c]→LR r ts→LR (c::r) (t::ts)
theorem et{c:Int}(h:bB c=true):65≤c∧c≤122:=by
 simp only[bB,Bool.or_eq_true,Bool.and_eq_true,beq_iff_eq,decide_eq_true_eq] at h;omega
theorem cR{c:Int}(h:aV c=true):48≤c∧c≤57:=by
 simp only[aV,Bool.and_eq_true,decide_eq_true_eq] at h;omega
theorem fq{c:Int}(h:eU c=true):48≤c∧c≤102:=by
 simp only[eU,aV,Bool.or_eq_true,Bool.and_eq_true,decide_eq_true_eq] at h;omega
theorem py{c:Int}(h:dE c=true):48≤c∧c≤55:=by
 simp only[dE,Bool.and_eq_true,decide_eq_true_eq] at h;omega
theorem pI{c:Int}(h0:0≤c)(h1:c<128):enc c=[b8 c]:=by
 unfold enc Go.Lib.encodeRune;rw[Go.Lib.encodeRuneZ_one h0 (by omega)];rfl
theorem e_:∀ (l:List Int),(∀c∈l,0≤c∧c<128)→aO l=fG l
 | [],_=>rfl
 |c::l,h=>by
  have h1:=h c (by simp);have h2:=e_ l fun x hx=>h x (by simp[hx])
  simp only[aO,List.flatMap_cons,fG,List.map_cons] at h2 ⊢;rw[pI h1.1 h1.2,h2];rfl
theorem ra{c:Int}{w:List Int}(h:bB c=true)(hw:∀x∈w,(bB x||aV x)=true):∀x∈c::w,0≤x∧x<128:=by
 intro x hx;rcases List.mem_cons.1 hx with rfl|hx
 ·have:=et h;omega
 ·have:=hw x hx;simp only[Bool.or_eq_true] at this;rcases this with e|e
  ·have:=et e;omega
  ·have:=cR e;omega
theorem pA:∀ (w r acc:List Int) (p:Ps),(∀x∈w,(bB x||aV x)=true)→(∀x,r.head?=some x→(bB x||aV x)=false)→∃p',fP (w++r) acc p=⟨acc++w,p',r⟩
 | [],r,acc,p,_,hr=>by
  refine⟨p,?_⟩;simp only[List.nil_append,List.append_nil];cases r with
  |nil=>rfl
  |cons c r=>unfold fP;rw[if_neg (by rw[hr c rfl];decide)]
 |c::w,r,acc,p,hw,hr=>by
  obtain⟨p',h⟩:=pA w r (acc++ [c]) (aC p c) (fun x hx=>hw x (by simp[hx])) hr;refine⟨p',?_⟩;rw[List.cons_append];unfold fP;rw[if_pos (hw c (by simp)),h];simp
theorem kG:∀ (b r:List Int) (p:Ps),(∀x∈b,x≠10)→(∀x,r.head?=some x→x=10)→∃q,lexF (bn (b++r) p).rest (bn (b++r) p).ps=lexF r q
 | [],r,p,_,hr=>by
  refine⟨p,?_⟩;cases r with
  |nil=>rfl
  |cons c r=>
   have e:=hr c rfl;subst e;simp only[List.nil_append];rw[lexF.eq_def (10::r)];simp only;rw[if_pos (by decide)];unfold bn;rw[if_pos rfl]
 |c::b,r,p,hb,hr=>by
  obtain⟨q,e⟩:=kG b r (aC p c) (fun x hx=>hb x (by simp[hx])) hr;refine⟨q,?_⟩;have e':bn (c::b++r) p=bn (b++r) (aC p c):=by
   rw[List.cons_append]
   conv=>lhs;unfold bn
   rw[if_neg (hb c (by simp))]
  rw[e',e]
theorem jG:∀ (b r:List Int) (p:Ps),(∀u v,b≠u++42::47::v)→(aM (b++42::47::r) p).rest=r
 | [],r,p,_=>by simp[aM]
 | [c],r,p,hb=>by
  simp only[List.cons_append,List.nil_append];unfold aM;rw[if_neg (by omega)];simp[aM]
 |c::d::b,r,p,hb=>by
  simp only[List.cons_append];unfold aM;rw[if_neg (by
   rintro⟨rfl,rfl⟩;exact hb [] b rfl)]
  exact jG (d::b) r (aC p c) fun u v e=>hb (c::u) v (by rw[e];rfl)
theorem zo{c:Int}(h:bB c=true∨aV c=true∨c=46):c≠43∧c≠45:=by
 rcases h with h|h|h
 ·have:=et h;omega
 ·have:=cR h;omega
 ·omega
theorem qC{hex:Bool}{p c:Int}(h:bR hex p c=true):¬ (((c==45||c==43) && !(p==101||p==69))=true)∧(c==46||bB c||aV c||c==45||c==43)=true:=by
 cases h1:bB c<;>cases h2:aV c<;>cases h3:(c==46)<;>cases h4:(c==45)<;>cases h5:(c==43)<;>cases h6:(p==101||p==69)<;>cases hex<;>simp_all [bR]<;> (subst_vars;first|exact absurd h1 (by decide)|exact absurd h2 (by decide))
theorem qB{hex:Bool}{p c:Int}(h:bR hex p c=false)(hx:hex=true→c≠43∧c≠45):((c==45||c==43) && !(p==101||p==69))=true∨(c==46||bB c||aV c||c==45||c==43)=false:=by
 cases h1:bB c<;>cases h2:aV c<;>cases h3:(c==46)<;>cases h4:(c==45)<;>cases h5:(c==43)<;>cases h6:(p==101||p==69)<;>cases hex<;>simp_all [bR]
theorem jf{hex:Bool}:∀ (w r acc:List Int) (p:Int) (ps:Ps),tN hex p w r→(hex=true→∀x,r.head?=some x→x≠43∧x≠45)→∃p',bV (w++r) acc (p==101||p==69) ps=⟨acc++w,p',r⟩
 | [],r,acc,p,ps,h,hx=>by
  refine⟨ps,?_⟩;simp only[List.nil_append,List.append_nil];cases r with
  |nil=>rfl
  |cons c r=>
   have h1:=h c rfl;unfold bV;rcases qB h1 (fun e=>hx e c rfl) with e|e
   ·rw[if_pos e]
   ·split
    ·rfl
    ·rw[if_neg (by rw[e];decide)]
 |c::w,r,acc,p,ps,h,hx=>by
  obtain⟨h1,h2⟩:=h;obtain⟨p',e⟩:=jf w r (acc++ [c]) c (aC ps c) h2 hx;refine⟨p',?_⟩;obtain⟨g1,g2⟩:=qC h1;rw[List.cons_append];unfold bV;rw[if_neg g1,if_pos g2,e];simp
theorem ko{b:Nat}(hb:0<b):∀ (l:List UInt8) (m v:Nat),ay b l m=some v→v< (m+1) *b^l.length
 | [],m,v,h=>by simp only[ay,Option.some.injEq] at h;simp;omega
 |c::l,m,v,h=>by
  unfold ay at h;split at h
  ·cases h
  ·rename_i d _;split at h
   ·rename_i hd;have h1:=ko hb l _ _ h;have h2:(m*b+d+1)≤(m+1) *b:=by rw[Nat.add_mul];omega
    calc v< (m*b+d+1) *b^l.length:=h1
     _≤((m+1) *b) *b^l.length:=Nat.mul_le_mul_right _ h2
     _=(m+1) *b^ (c::l).length:=by rw[List.length_cons,Nat.pow_succ,Nat.mul_assoc,Nat.mul_comm b]
   ·cases h
theorem pc{b:Nat}(hb:0<b){l:List UInt8}{v:Nat}(h:bA b l=some v):v<b^l.length:=by
 unfold bA at h;split at h
 ·cases h
 ·have:=ko hb l 0 v h;omega
theorem i_{b:Nat}{c:UInt8}{l:List UInt8}{v:Nat}(h:bA b (c::l)=some v)(hc:c≠43∧c≠45)(hv:v<2147483648):cG b (c::l)=some (v:Int):=by
 unfold cG;simp only[if_neg hc.1,if_neg hc.2,h,Option.bind_some,if_pos hv]
theorem tA{c:Int}(h:48≤c∧c≤102):b8 c≠43∧b8 c≠45:=by
 have h1:∀n:Nat,n<128→48≤n→UInt8.ofNat n≠43∧UInt8.ofNat n≠45:=by decide
 exact h1 c.toNat (by omega) (by omega)
theorem fR{v:Nat}(h:v<256):dN (v:Int)=UInt8.ofNat v:=by
 unfold dN;rw[show((v:Int) %256).toNat=v from by omega]
theorem mu{n:Nat}{r:List Int}(h:(r.take n).all eU=true):∀c∈r.take n,48≤c∧c≤102:=fun c hc=>fq (List.all_eq_true.1 h c hc)
theorem rg{c:Int}{n:Nat}{big:Bool}{r:List Int}{o:List UInt8}{k:Nat}(hn:0<n)(h:pW n r=some (o,k)):da c n big r=o∧k=n+1:=by
 unfold pW at h;split at h
 ·cases h
 ·rename_i h1;have hl:n≤r.length:=by
   rcases Nat.lt_or_ge r.length n with e|e
   ·exact absurd (.inl e) h1
   ·exact e
  have ha:(r.take n).all eU=true:=by
   cases e:(r.take n).all eU with
   |true=>rfl
   |false=>exact absurd (.inr (by rw[e];decide)) h1
  split at h
  ·cases h
  ·rename_i v hv;split at h
   ·cases h
   ·rename_i h2;cases h;refine⟨?_,rfl⟩;have hu:r.take n++List.replicate (n-r.length) 0=r.take n:=by rw[show n-r.length=0 from by omega];simp
    have he:aO (r.take n)=fG (r.take n):=e_ _ fun x hx=>by have:=mu ha x hx;omega
    have hp:cG 16 (fG (r.take n))=some (v:Int):=by
     clear hu he;cases r with
     |nil=>simp at hl;omega
     |cons c1 r=>
      cases n with
      |zero=>omega
      |succ n=>
       have hx:fG ((c1::r).take (n+1))=b8 c1::fG (r.take n):=rfl;rw[hx] at hv ⊢;exact i_ hv (tA (mu ha c1 (by simp))) (by omega)
    unfold da;simp only[hu,he,hp];rw[if_neg (by omega)];simp only[List.nil_append];rw[if_neg (by rintro⟨-,h|h⟩<;>omega)]
theorem pB{c1:Int}{l:List Int}{v:Nat}(h1:eU c1=true)(hl:∀c∈l,48≤c∧c≤102)(hn:l.length≤1)(h:bA 16 (fG (c1::l))=some v):
  cG 16 (aO (c1::l))=some (v:Int)∧v<256:=by
 have ha:=fq h1;have hv:=pc (by decide) h;have hv':v<256:=by
  refine Nat.lt_of_lt_of_le hv ?_;have:(fG (c1::l)).length≤2:=by simp[fG];omega
  calc 16^ (fG (c1::l)).length≤16^2:=Nat.pow_le_pow_right (by decide) this
   _=256:=rfl
 rw[e_ _ fun x hx=>by
  rcases List.mem_cons.1 hx with rfl|hx
  ·omega
  ·have:=hl x hx;omega]
 exact⟨i_ h (tA ha) (by omega),hv'⟩
theorem lD{c1:Int}{l:List Int}{v:Nat}(h1:dE c1=true)(hl:∀c∈l,dE c=true)(h:bA 8 (fG (c1::l))=some v)(hv:¬v>255):
  b_ (aO (c1::l))=[UInt8.ofNat v]:=by
 have ha:=py h1;unfold b_;rw[e_ _ fun x hx=>by
  rcases List.mem_cons.1 hx with rfl|hx
  ·omega
  ·have:=py (hl x hx);omega]
 rw[show cG 8 (fG (c1::l))=some (v:Int) from i_ h (tA (by omega)) (by omega)];simp only;rw[if_neg (by omega),fR (by omega)]
theorem vO(a b:Int):enc a++enc b=aO [a,b]:=by simp[aO]
theorem yR(a b c:Int):enc a++enc b++enc c=aO [a,b,c]:=by simp[aO]
theorem vP(a:Int):enc a=aO [a]:=by simp[aO]
theorem xg{d:Int}{r:List Int}{o:List UInt8}{k:Nat}(h:gR (d::r)=some (o,k))(hr:(d::r).drop k≠[]):aU d r=⟨o,(d::r).drop k⟩:=by
 unfold gR at h;simp only at h;split at h
 ·rename_i b hb;cases h;simp only[List.drop_succ_cons,List.drop_zero];simp only[escT,List.lookup] at hb
  repeat' split at hb
  all_goals(first|(cases hb;done)|skip)
  all_goals
   rename_i e;have e:=eq_of_beq e;cases hb;subst e;simp[aU,dE]
 ·rename_i hb;clear hb;split at h
  ·rename_i hx;unfold aU;rw[if_pos hx];split at h
   ·cases h
   ·rename_i c1 r2;split at h
    ·rename_i h1;split at h
     ·simp only[Option.map_eq_some_iff] at h;obtain⟨v,-,e⟩:=h;cases e;exact absurd rfl hr
     ·rename_i c2 r3;split at h
      ·rename_i h2;simp only[Option.map_eq_some_iff] at h;obtain⟨v,hv,e⟩:=h;cases e;obtain⟨g1,g2⟩:=pB (l:=[c2]) h1 (by simp;exact fq h2) (by simp) hv;simp only[dt,h2,if_true,vO,g1,fR g2];rfl
      ·rename_i h2;split at h
       ·cases h
       ·simp only[Option.map_eq_some_iff] at h;obtain⟨v,hv,e⟩:=h;cases e;obtain⟨g1,g2⟩:=pB (l:=[]) h1 (by simp) (by simp) hv;simp only[dt];rw[if_neg h2,if_neg h2,vP,g1];simp only[fR g2];rfl
    ·cases h
  ·rename_i hx;split at h
   ·rename_i e;subst e;obtain⟨h1,rfl⟩:=rg (c:=117) (big:=false) (by decide) h;simp[aU,dE,h1]
   ·rename_i hu;split at h
    ·rename_i e;subst e;obtain⟨h1,rfl⟩:=rg (c:=85) (big:=true) (by decide) h;simp[aU,dE,h1]
    ·rename_i hU;split at h
     ·rename_i ho;unfold aU;rw[if_neg hx,if_pos ho];split at h
      ·simp only[Option.bind_eq_some_iff] at h;obtain⟨v,hv,e⟩:=h;split at e
       ·cases e
       ·cases e;exact absurd rfl hr
      ·rename_i c2 r2;split at h
       ·rename_i h2;split at h
        ·simp only[Option.bind_eq_some_iff] at h;obtain⟨v,hv,e⟩:=h;split at e
         ·cases e
         ·cases e;exact absurd rfl hr
        ·rename_i c3 r3;split at h
         ·rename_i h3;simp only[Option.bind_eq_some_iff] at h;obtain⟨v,hv,e⟩:=h;split at e
          ·cases e
          ·rename_i hv2;cases e;simp only[cu,h2,h3,if_true,yR];rw[lD ho (by simp[h2,h3]) hv hv2];rfl
         ·rename_i h3;simp only[Option.bind_eq_some_iff] at h;obtain⟨v,hv,e⟩:=h;split at e
          ·cases e
          ·rename_i hv2;cases e;simp only[cu,h2,if_true];rw[if_neg h3,vO,lD ho (by simp[h2]) hv hv2];rfl
       ·rename_i h2;simp only[Option.bind_eq_some_iff] at h;obtain⟨v,hv,e⟩:=h;split at e
        ·cases e
        ·rename_i hv2;cases e;simp only[cu];rw[if_neg h2,vP,lD ho (by simp) hv hv2];rfl
     ·cases h
theorem StrS.ne{q:Int}{s r:List Int}{v:List UInt8}(h:StrS q s v r):s≠[]:=by
 cases h<;>simp
theorem rq{q:Int}(hq:q=34∨q=39){s r:List Int}{v:List UInt8}(h:StrS q s v r):∀ (acc:List UInt8) (p:Ps),∃p',strF q s acc p=⟨acc++v,p',r⟩:=by
 induction h with
 |done=>
  intro acc p;refine⟨aC p q,?_⟩;unfold strF;simp
 | @chr c s r v h1 h2 h3 h4 _ ih=>
  intro acc p;obtain⟨p',e⟩:=ih (acc++enc c) (aC p c);refine⟨p',?_⟩;unfold strF;simp only[if_neg h1,if_neg h2];rw[e,pI h3 h4];simp
 | @esc s r o v k h1 h2 ih=>
  intro acc p
  match s,h1 with
  |d::s,h1=>
   have e1:=xg h1 h2.ne;obtain⟨p',e⟩:=ih (acc++o) (aC p 92);refine⟨p',?_⟩;unfold strF;rw[if_neg (by omega),if_pos rfl];simp only[e1];rw[e,qs]
def Same(x:Lx)(t:Pt):Prop:=
 (t.k=1∧x.k=65539∧x.t=some t.raw)∨((t.k=2∨t.k=3)∧x.k=65538)∨(t.k=4∧x.k=65537∧x.t=some t.val)∨(t.k=5∧∃c∈gG,x.k=c∧t.raw=[b8 c])
theorem LR.no_plus{r:List Int}{ts:List Pt}(h:LR r ts):r.head?≠some 43:=by
 intro e;cases h with
 |fin _=>cases e
 |blank hc _=>cases e;omega
 |line _ _ _=>cases e
 |block _ _=>cases e
 |ident hc _ _ _ _ _=>cases e;exact absurd hc (by decide)
 |num hex hc _ _ _ _=>cases e;rcases hc with h|h;exact absurd h (by decide);exact absurd h.1 (by decide)
 |str hq _ _ _ _=>cases e;omega
 |sym hc _ _ _ _ _=>cases e;exact absurd hc (by decide)
theorem LR.minus{r:List Int}{ts:List Pt}(h:LR r ts)(e:r.head?=some 45):∃t ts',ts=t::ts'∧t.k=5∧t.raw=[45]:=by
 cases h with
 |fin _=>cases e
 |blank hc _=>cases e;omega
 |line _ _ _=>cases e
 |block _ _=>cases e
 |ident hc _ _ _ _ _=>cases e;exact absurd hc (by decide)
 |num hex hc _ _ _ _=>cases e;rcases hc with h|h;exact absurd h (by decide);exact absurd h.1 (by decide)
 |str hq _ _ _ _=>cases e;omega
 |sym hc _ _ hk hr _=>cases e;exact⟨_,_,rfl,hk,hr⟩
theorem m8{R:List Int}{ts:List Pt}(h:LR R ts):(∀t t' ts',ts=t::t'::ts'→¬ (t.k=2∧t'.k=5∧t'.raw=[45]))→∀p,(∃t,ts=[t]∧t.k=6∧lexF R p=none)∨(∃t ts' x,ts=t::ts'∧lexF R p=some x∧Same x t∧LR x.rest ts'):=by
 induction h with
 |fin h=>intro _ p;exact .inl ⟨_,rfl,h,by unfold lexF;rfl⟩
 | @blank c r ts hc _ ih=>
  intro hg p;have e:lexF (c::r) p=lexF r (aC p c):=by
   rw[lexF.eq_def];simp only;rw[if_pos (by rcases hc with rfl|rfl|rfl|rfl<;>rfl)]
  rw[e];exact ih hg _
 | @line b r ts hb hr h ih=>
  intro hg p;obtain⟨q,e1⟩:=kG b r (aC (aC p 47) 47) hb hr;have e:lexF (47::47:: (b++r)) p=lexF r q:=by
   rw[lexF.eq_def];simp only;rw[if_neg (by decide),if_neg (by decide),if_neg (by decide),if_neg (by decide),if_neg (by decide),if_pos trivial,if_pos trivial];exact e1
  rw[e];exact ih hg q
 | @block b r ts hb h ih=>
  intro hg p;have e:∃q,lexF (47::42:: (b++42::47::r)) p=lexF r q:=by
   refine⟨(aM (b++42::47::r) (aC (aC p 47) 42)).ps,?_⟩;rw[lexF.eq_def];simp only;rw[if_neg (by decide),if_neg (by decide),if_neg (by decide),if_neg (by decide),if_neg (by decide),if_pos trivial,if_neg (by decide),if_pos trivial,jG b r _ hb]
  obtain⟨q,e⟩:=e;rw[e];exact ih hg q
 | @ident c w r t ts hc hw hr hk hraw h ih=>
  intro hg p;obtain⟨p',e⟩:=pA w r [c] (aC p c) hw hr;have hb:=et hc;refine .inr ⟨t,ts,⟨65539,some (aO ([c] ++w)),p,p',r⟩,rfl,?_,.inl ⟨hk,rfl,?_⟩,h⟩
  ·rw[lexF.eq_def];simp only;rw[if_neg (by simp[iA];omega),if_neg (by omega),if_pos hc,e]
  ·simp only[List.singleton_append];rw[hraw,e_ _ (ra hc hw)]
 | @num c w r t ts hex hc hn hh hk h ih=>
  intro hg p;have hx:hex=true→∀x,r.head?=some x→x≠43∧x≠45:=by
   intro e x hx;refine⟨fun e'=>h.no_plus (by rw[hx,e']),fun e'=>?_⟩;obtain⟨t',ts',rfl,h1,h2⟩:=h.minus (by rw[hx,e']);exact hg t t' ts' rfl ⟨hh e,h1,h2⟩
  rcases hc with hc|⟨rfl,d,w',rfl,hd⟩
  ·have hb:=cR hc;obtain⟨p',e⟩:=jf w r [c] c (aC p c) hn hx;rw[show(c==101||c==69)=false from by simp;omega] at e;refine .inr ⟨t,ts,⟨65538,some (aO ([c] ++w)),p,p',r⟩,rfl,?_,.inr (.inl ⟨hk,rfl⟩),h⟩;rw[lexF.eq_def];simp only;rw[if_neg (by simp[iA];omega),if_neg (by omega),if_neg (by simp[bB];omega),if_pos hc,e]
  ·have hb:=cR hd;obtain⟨p',e⟩:=jf w' r [46,d] d (aC (aC p 46) d) hn.2 hx;rw[show(d==101||d==69)=false from by simp;omega] at e;refine .inr ⟨t,ts,⟨65538,some (aO ([46,d] ++w')),p,p',r⟩,rfl,?_,.inr (.inl ⟨hk,rfl⟩),h⟩;rw[lexF.eq_def];simp only;rw[if_neg (by decide),if_pos trivial];simp only[List.cons_append,jW];rw[if_pos hd,e];rfl
 | @str q s r v t ts hq hs hk hv h ih=>
  intro hg p;obtain⟨p',e⟩:=rq hq hs [] (aC p q);refine .inr ⟨t,ts,⟨65537,some v,p,p',r⟩,rfl,?_,.inr (.inr (.inl ⟨hk,rfl,by rw[hv]⟩)),h⟩;rw[lexF.eq_def];simp only;rw[if_neg (by rcases hq with rfl|rfl<;>decide),if_neg (by omega),if_neg (by rcases hq with rfl|rfl<;>decide),if_neg (by rcases hq with rfl|rfl<;>decide),if_pos (by omega),e];rfl
 | @sym c r t ts hc hd hs hk hr h ih=>
  intro hg p;have hc':c=59∨c=44∨c=46∨c=47∨c=58∨c=61∨c=45∨c=40∨c=41∨c=123∨c=125∨c=91∨c=93∨c=60∨c=62:=by
   simpa[gG] using hc
  by_cases e1:c=46
  ·subst e1;refine .inr ⟨t,ts,⟨46,none,p,aC p 46,r⟩,rfl,?_,.inr (.inr (.inr ⟨hk,46,hc,rfl,hr⟩)),h⟩;rw[lexF.eq_def];simp only;rw[if_neg (by decide),if_pos trivial];cases r with
   |nil=>rfl
   |cons d r=>simp only[jW];rw[if_neg (by rw[hd rfl d rfl];decide)]
  ·by_cases e2:c=47
   ·subst e2;refine .inr ⟨t,ts,⟨47,none,p,aC p 47,r⟩,rfl,?_,.inr (.inr (.inr ⟨hk,47,hc,rfl,hr⟩)),h⟩;rw[lexF.eq_def];simp only;rw[if_neg (by decide),if_neg (by decide),if_neg (by decide),if_neg (by decide),if_neg (by decide),if_pos trivial];cases r with
    |nil=>rfl
    |cons d r=>
     have:=hs rfl d rfl;simp only;rw[if_neg this.1,if_neg this.2]
   ·refine .inr ⟨t,ts,⟨c,none,p,aC p c,r⟩,rfl,?_,.inr (.inr (.inr ⟨hk,c,hc,rfl,hr⟩)),h⟩;rw[lexF.eq_def];simp only;rw[if_neg (by simp[iA];omega),if_neg e1,if_neg (by simp[bB];omega),if_neg (by simp[aV];omega),if_neg (by omega),if_neg e2]
end Go.Proofs.YtnclklfhjbkjhaaGreatDoor
