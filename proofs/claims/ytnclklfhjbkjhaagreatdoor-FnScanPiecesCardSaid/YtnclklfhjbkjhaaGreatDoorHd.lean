/- Part of the proof: H7 H8. -/
import Derived.Test.YtnclklfhjbkjhaaGreatDoorHc
set_option maxRecDepth 1000000
set_option maxHeartbeats 40000000
set_option linter.unusedSimpArgs false
namespace Go.Proofs.YtnclklfhjbkjhaaGreatDoor
open Tryz
open Go.RowKit
theorem pr{c:UInt8}:(c=95∨(97≤c∧c≤122)∨(65≤c∧c≤90))↔bB (c.toNat:Int)=true:=by
 have h95:c=95↔c.toNat=95:=⟨fun e=>by rw[e];rfl,fun e=>UInt8.toNat_inj.1 (by rw[e];rfl)⟩;rw[h95];simp only[bB,UInt8.le_iff_toNat_le,Bool.or_eq_true,Bool.and_eq_true,beq_iff_eq,decide_eq_true_eq];have e1:(97:UInt8).toNat=97:=rfl;have e2:(122:UInt8).toNat=122:=rfl;have e3:(65:UInt8).toNat=65:=rfl;have e4:(90:UInt8).toNat=90:=rfl;rw[e1,e2,e3,e4];omega
theorem sN{s:ByteArray}{a n:Nat}(h0:0<n)(hn:a+n≤s.size)(hc:bB (bz s a)=true)(hall:∀x,1≤x→x<n→(bB (bz s (a+x)) ||aV (bz s (a+x)))=true)(hend:a+n<s.size→(bB (bz s (a+n)) ||aV (bz s (a+n)))=false)
  {t:Tk} (hk:t.kind=1) (hr:t.raw=s.extract a (a+n)) {us:List Pt} (h:LR (tx s (a+n)) us):LR (tx s a) (rR t::us):=by
 have hsg:sg s a (a+n)=bz s a::sg s (a+1) (a+n):=eh (by omega) hn;rw[aL (by omega),o6 (show a+1≤a+n by omega)];refine LR.ident hc ?_ ?_ hk ?_ h
 ·intro x hx;obtain⟨k,k1,k2,rfl⟩:=cJ hn hx;have:=hall (k-a) (by omega) (by omega)
  rwa [show a+(k-a)=k from by omega] at this
 ·intro x hx;obtain⟨k1,rfl⟩:=fU hx;exact hend k1
 ·show t.raw.toList=_;rw[hr,bL,hsg]
theorem sM{s:ByteArray}{a n:Nat}(h0:0<n)(hn:a+n≤s.size)(hc:bB (bz s a)=true)(m:Int):iC ⟨1,s.extract a (a+n),⟨#[]⟩,0,m⟩:=by
 refine⟨fun _=>?_,fun e=>absurd (show(1:Int)=5 from e) (by decide)⟩;have hsg:sg s a (a+n)=bz s a::sg s (a+1) (a+n):=eh (by omega) hn;refine⟨b8 (bz s a),fG (sg s (a+1) (a+n)),?_,?_⟩
 ·show(s.extract a (a+n)).toList=_;rw[bL,hsg];rfl
 ·rw[vR s (by omega),pr,←aq];exact hc
theorem wB{s:ByteArray}{a:Nat}(ha:a<s.size)(hc:bz s a∈gG)(h46:bz s a=46→a+1<s.size→aV (bz s (a+1))=false)(h47:bz s a=47→a+1<s.size→bz s (a+1)≠47∧bz s (a+1)≠42)
  {t:Tk} (hk:t.kind=5) (hr:t.raw=s.extract a (a+1)) {us:List Pt} (h:LR (tx s (a+1)) us):LR (tx s a) (rR t::us):=by
 rw[aL ha];refine LR.sym hc ?_ ?_ hk ?_ h
 ·intro e d hd;obtain⟨k1,rfl⟩:=fU hd;exact h46 e k1
 ·intro e d hd;obtain⟨k1,rfl⟩:=fU hd;exact h47 e k1
 ·show t.raw.toList=_;rw[hr,lZ ha]
theorem wA{s:ByteArray}{a:Nat}(ha:a<s.size)(hc:bB (bz s a)=false)(m:Int):iC ⟨5,s.extract a (a+1),⟨#[]⟩,0,m⟩:=by
 refine⟨fun e=>absurd (show(5:Int)=1 from e) (by decide),fun _=>⟨b8 (bz s a),lZ ha,?_⟩⟩;rw[vR s ha,pr,←aq,hc];decide
theorem TokP.sym{w0:World}{lb a m g:Nat}{s:ByteArray}{ts:List Tk}{w':World}(ha:a<s.size)(_hs:s.size≤100000)(hc:bz s a∈gG)(h46:bz s a=46→a+1<s.size→aV (bz s (a+1))=false)(h47:bz s a=47→a+1<s.size→bz s (a+1)≠47∧bz s (a+1)≠42)
  (h:LMg w0 lb s (a+1) 0 (ts++ [⟨5,s.extract a (a+1),⟨#[]⟩,0,m⟩]) (m+1) g w'):TokP w0 lb s a ts m w':=by
 have hl:bB (bz s a)=false:=by
  simp only[gG,List.mem_cons,List.not_mem_nil,or_false] at hc;rcases hc with h|h|h|h|h|h|h|h|h|h|h|h|h|h|h<;>rw[h]<;>rfl
 exact⟨1,0,_,by decide,ha,h.lm,⟨wA ha hl m,(show(5:Int)≠6 by decide),by simp only;rw[qo];omega,Nat.zero_le _⟩,fun _ us hu=>wB ha hc h46 h47 rfl rfl hu⟩
theorem TokP.ident{w0:World}{lb a m n g:Nat}{s:ByteArray}{ts:List Tk}{w':World}(h0:0<n)(hn:a+n≤s.size)(hs:s.size≤100000)(hc:bB (bz s a)=true)(hall:∀x,1≤x→x<n→(bB (bz s (a+x)) ||aV (bz s (a+x)))=true)(hend:a+n<s.size→(bB (bz s (a+n)) ||aV (bz s (a+n)))=false)
  (h:LMg w0 lb s (a+n) 0 (ts++ [⟨1,s.extract a (a+n),⟨#[]⟩,0,m⟩]) (m+1) g w'):TokP w0 lb s a ts m w':=
 ⟨n,0,_,h0,hn,h.lm,⟨sM h0 hn hc m,(show(1:Int)≠6 by decide),by simp only;rw[qo];omega,Nat.zero_le _⟩,fun _ us hu=>sN h0 hn hc hall hend rfl rfl hu⟩
theorem lF(w0:World)(lb:Nat)(s:ByteArray)(hs:s.size≤100000)(a m:Nat)(ts:List Tk)(bk:ByteArray)(w:World)(h:LM w0 lb s a 0 ts m w)(ha:a<s.size)(hm:m≤500000)(_htl:ts.length≤500000)(h47:bz s a=47)(h1:a+1<s.size)(h2:bz s (a+1)=47∨bz s (a+1)=42):
  Calls prog 21 #[.pointer (some ⟨lb,0,none⟩),.string bk] w (GoPost w0 lb s a ts m):=by
 obtain⟨ln,bg,iv,tv,xs,hl1,-⟩:=h.st;obtain⟨b,c0,c1,-⟩:=hl1.facts;have H:=Z h;have haz:(0:Int)≤(a:Int):=by omega
 have haz1:(a:Int) < (s.size:Int):=by omega
 have haz2:(a:Int)≤(s.size:Int):=by omega
 have HBA:=Z (aq ha);obtain⟨r,hr⟩:∃r,s.extract a s.size=r:=⟨_,rfl⟩;have HR:=Z (show Rest s a r by rw[←hr];exact Rest.ext s a (by omega));have hrs:=HR.size;have hr0:0<r.size:=by omega
 have HRS:=Z hrs;have hr2:r.size≤100000:=by omega
 clear h hl1 hrs;obtain⟨c,hcc⟩:∃c:Int,((s[a]'ha).toNat:Int)=c:=⟨_,rfl⟩;have HC:=Z (show bz s a=c from HBA.trans hcc);have H47:=Z h47;have hc47:c=47:=HC.symm.trans h47;subst hc47;have hr1:1<r.size:=by have:=HRS.out;omega
 have hrz:(r.size:Int) >1:=by omega
 have hrz':(1:Int) < (r.size:Int):=by omega
 have HB1:=Z ((HR.bz 1).symm.trans (aq hr1));have H2:=Z h2;clear h47;rcases h2 with h2|h2
 ·have e1:((r[1]'hr1).toNat:Int)=47:=HB1.symm.trans h2;clear h2;go_enter func21,ntmps21;go_wp2_with fail;go_quiet (fail);go_wp2_with (go_at_call 41;refine(io w0 lb s r hs a m ts bk _ (H.kp ((Fr.refl w).drewNf _)) HR h1 H47 H2 hm).mono ?_;rintro e w2 ⟨b,a',m',how',ts',rfl,hh⟩);go_ret;exact⟨b,a',m',how',ts',rfl,hh⟩
 ·have e1:((r[1]'hr1).toNat:Int)=42:=HB1.symm.trans h2;clear h2;go_enter func21,ntmps21;go_wp2_with fail;go_quiet (fail);go_wp2_with (go_at_call 41;refine(io w0 lb s r hs a m ts bk _ (H.kp ((Fr.refl w).drewNf _)) HR h1 H47 H2 hm).mono ?_;rintro e w2 ⟨b,a',m',how',ts',rfl,hh⟩);go_ret;exact⟨b,a',m',how',ts',rfl,hh⟩
theorem oe(w0:World)(lb:Nat)(s:ByteArray)(hs:s.size≤100000)(a m:Nat)(ts:List Tk)(bk:ByteArray)(w:World)(h:LM w0 lb s a 0 ts m w)(ha:a<s.size)(hm:m≤500000)(htl:ts.length≤500000)(hl:bB (bz s a)=true):
  Calls prog 21 #[.pointer (some ⟨lb,0,none⟩),.string bk] w (GoPost w0 lb s a ts m):=by
 obtain⟨ln,bg,iv,tv,xs,hl1,-⟩:=h.st;obtain⟨b,c0,c1,-⟩:=hl1.facts;have H:=Z h;have haz:(0:Int)≤(a:Int):=by omega
 have haz1:(a:Int) < (s.size:Int):=by omega
 have haz2:(a:Int)≤(s.size:Int):=by omega
 have HBA:=Z (aq ha);obtain⟨r,hr⟩:∃r,s.extract a s.size=r:=⟨_,rfl⟩;have HR:=Z (show Rest s a r by rw[←hr];exact Rest.ext s a (by omega));have hrs:=HR.size;have hr0:0<r.size:=by omega
 have HRS:=Z hrs;have hr2:r.size≤100000:=by omega
 clear h hl1 hrs;obtain⟨c,hcc⟩:∃c:Int,((s[a]'ha).toNat:Int)=c:=⟨_,rfl⟩;have HC:=Z (show bz s a=c from HBA.trans hcc);have HLA:=Z hl;have hlr:=et hl;have q47:(c==47)=false:=bf (by rw[←HC.out];intro e;rw[e] at hl;exact absurd hl (by decide));have HLC:=Z (show bB c=true by rw[←HC.out];exact hl);clear hl hlr;go_enter func21,ntmps21;go_wp2_with fail;go_quiet (fail);go_wp2_with (go_at_call 42;refine(ah _ _).mono ?_;rintro e w' ⟨rfl,rfl⟩;rw[HLC.out]);refine aG (fun x=>Hid (LM w0 lb s a 0 ts m x)) (Z (H.kp ((Fr.refl w).drewNf _))) ?_;intro x HW;go_loopw [7] (fun u wr=>wr=x∧∃n:Nat,u= .int .i64 n∧Hid (1≤n∧n≤r.size∧∀x,1≤x→x<n→(bB (bz s (a+x)) ||aV (bz s (a+x)))=true)) (fun u _=>r.size-br u)
 case atStart=>exact⟨rfl,1,rfl,Z ⟨Nat.le_refl _,hr0,fun x h1 h2=>by omega⟩⟩
 case round=>
  obtain⟨rfl,n,rfl,HN⟩:=hrel;have hn0:(0:Int)≤(n:Int):=by omega
  by_cases hm':n<r.size
  ·have hmz:(n:Int) < (r.size:Int):=by omega
   have HBN:=Z ((HR.bz n).symm.trans (aq hm'));cases hl:bB ((r[n]'hm').toNat:Int)
   ·have HL:=Z hl;clear hl;cases hd:aV ((r[n]'hm').toNat:Int)
    ·have HD:=Z hd;clear hd;go_wp2_with (first|(go_at_call 42;refine(ah _ _).mono ?_;rintro e w' ⟨rfl,rfl⟩;rw[HL.out])|(go_at_call 43;refine(ai _ _).mono ?_;rintro e w' ⟨rfl,rfl⟩;rw[HD.out]));refine(aK w0 lb s hs a n m 0 ts 1 bk _ HW (by have:=HN.2.1;have:=HRS.out;omega) hm htl).mono ?_;rintro e w4 ⟨g,rfl,hg⟩;have HG:=Z hg;clear hg;go_wp2_with fail;go_ret;exact GoPost.tok (TokP.ident (g:=g) HN.1 (by have:=HN.2.1;have:=HRS.out;omega) hs HLA.out HN.2.2 (fun _=>by rw[HBN.out,HL.out,HD.out];rfl) HG.out)
    ·have HD:=Z hd;clear hd;go_wp2_with (first|(go_at_call 42;refine(ah _ _).mono ?_;rintro e w' ⟨rfl,rfl⟩;rw[HL.out])|(go_at_call 43;refine(ai _ _).mono ?_;rintro e w' ⟨rfl,rfl⟩;rw[HD.out]));go_roundw
     case rel=>exact⟨by trivial,n+1,by simp,Z ⟨by omega,hm',fun y h1 h2=>by
      rcases Nat.lt_or_ge y n with g|g
      ·exact HN.2.2 y h1 g
      ·rw[show y=n from by omega,HBN.out,HL.out,HD.out];rfl⟩⟩
     case measure=>simp only[br];omega
   ·have HL:=Z hl;clear hl;go_wp2_with (first|(go_at_call 42;refine(ah _ _).mono ?_;rintro e w' ⟨rfl,rfl⟩;rw[HL.out])|(go_at_call 43;refine(ai _ _).mono ?_;rintro e w' ⟨rfl,rfl⟩;rw[HL.out]));go_roundw
    case rel=>exact⟨by trivial,n+1,by simp,Z ⟨by omega,hm',fun y h1 h2=>by
     rcases Nat.lt_or_ge y n with g|g
     ·exact HN.2.2 y h1 g
     ·rw[show y=n from by omega,HBN.out,HL.out];rfl⟩⟩
    case measure=>simp only[br];omega
  ·have hmz:¬ (n:Int) < (r.size:Int):=by omega
   have hne:n=r.size:=by have:=HN.2.1;omega
   have HNE:=Z hne;clear hne;go_wp2_with fail;refine(aK w0 lb s hs a n m 0 ts 1 bk _ HW (by have:=HN.2.1;have:=HRS.out;omega) hm htl).mono ?_;rintro e w4 ⟨g,rfl,hg⟩;have HG:=Z hg;clear hg;go_wp2_with fail;go_ret;exact GoPost.tok (TokP.ident (g:=g) HN.1 (by have:=HN.2.1;have:=HRS.out;omega) hs HLA HN.2.2 (fun h=>by have:=HNE.out;have:=HRS.out;omega) HG)
theorem ii(w0:World)(lb:Nat)(s:ByteArray)(hs:s.size≤100000)(a m:Nat)(ts:List Tk)(bk:ByteArray)(w:World)(h:LM w0 lb s a 0 ts m w)(ha:a<s.size)(hm:m≤500000)(htl:ts.length≤500000)(hb:aV (bz s a)=true∨(bz s a=46∧a+1<s.size∧aV (bz s (a+1))=true))
  (hpu:∀ (d:ByteArray) (b:Nat) (w':World),Keep w0 w'→(b=8∨b=10∨b=16)→d.size≤100000→cz b d=true→Calls prog 107 #[.string d,.int .i64 b,.int .i64 64] w' (dO d b w'))
  (hpf:∀ (d:ByteArray) (w':World),Keep w0 w'→d.size≤100000→RealOk d→Calls prog 109 #[.string d,.int .i64 64] w' (gW w')):
  Calls prog 21 #[.pointer (some ⟨lb,0,none⟩),.string bk] w (GoPost w0 lb s a ts m):=by
 obtain⟨ln,bg,iv,tv,xs,hl1,-⟩:=h.st;obtain⟨b,c0,c1,-⟩:=hl1.facts;have H:=Z h;have haz:(0:Int)≤(a:Int):=by omega
 have haz1:(a:Int) < (s.size:Int):=by omega
 have haz2:(a:Int)≤(s.size:Int):=by omega
 have HBA:=Z (aq ha);obtain⟨r,hr⟩:∃r,s.extract a s.size=r:=⟨_,rfl⟩;have HR:=Z (show Rest s a r by rw[←hr];exact Rest.ext s a (by omega));have hrs:=HR.size;have hr0:0<r.size:=by omega
 have HRS:=Z hrs;have hr2:r.size≤100000:=by omega
 clear h hl1 hrs;obtain⟨c,hcc⟩:∃c:Int,((s[a]'ha).toNat:Int)=c:=⟨_,rfl⟩;have HC:=Z (show bz s a=c from HBA.trans hcc);have HB0:=Z hb;have HV:=Z fun(v:ByteArray) (hx:Bool) (w':World) (k:Keep w0 w') (h1:v.size≤100000) (h2:0<v.size) (h3:hx=true→2≤v.size)=>pV w0 v hx h1 h2 h3 w' k hpu hpf
 clear hpu hpf;rcases hb with hb|⟨hb,h1,h2⟩
 ·have hdr:=cR hb;have HD:=Z (show aV c=true by rw[←HC.out];exact hb);have hcr:=HC.out;have q47:(c==47)=false:=bf (by omega);have HL:=Z (show bB c=false by
   cases hq:bB c
   ·rfl
   ·have:=et hq;omega)
  clear hb hdr hcr;go_enter func21,ntmps21;go_wp2_with fail;go_quiet (fail);go_wp2_with (first|(go_at_call 42;refine(ah _ _).mono ?_;rintro e w' ⟨rfl,rfl⟩;rw[HL.out])|(go_at_call 43;refine(ai _ _).mono ?_;rintro e w' ⟨rfl,rfl⟩;rw[HD.out])|(go_at_call 44;refine(je w0 lb s r hs a m ts bk _ (H.kp ((Fr.refl w).drewNf _)) HR.out ha HB0.out hm htl HV.out).mono ?_;rintro e w2 ⟨rfl,ht⟩));go_ret;exact GoPost.tok ht
 ·have hc46:c=46:=HC.symm.trans hb;subst hc46;have hr1:1<r.size:=by have:=HRS.out;omega
  have hrz:(r.size:Int) >1:=by omega
  have hrz':(1:Int) < (r.size:Int):=by omega
  have HD1:=Z (show aV ((r[1]'hr1).toNat:Int)=true by rw[←aq hr1,HR.bz];exact h2);clear hb h2;go_enter func21,ntmps21;go_wp2_with fail;go_quiet (fail);go_wp2_with (first|(go_at_call 42;refine(ah _ _).mono ?_;rintro e w' ⟨rfl,rfl⟩;rw[show bB 46=false from rfl])|(go_at_call_of 43 (Value.int .u8 46);refine(ai _ _).mono ?_;rintro e w' ⟨rfl,rfl⟩;rw[show aV 46=false from rfl])|(go_at_call 43;refine(ai _ _).mono ?_;rintro e w' ⟨rfl,rfl⟩;rw[HD1.out])|(go_at_call 44;refine(je w0 lb s r hs a m ts bk _ (H.kp ((Fr.refl w).drewNf _)) HR.out ha HB0.out hm htl HV.out).mono ?_;rintro e w2 ⟨rfl,ht⟩));go_ret;exact GoPost.tok ht
theorem qD(w0:World)(lb:Nat)(s:ByteArray)(hs:s.size≤100000)(a m:Nat)(ts:List Tk)(bk:ByteArray)(w:World)(h:LM w0 lb s a 0 ts m w)(ha:a<s.size)(hm:m≤500000)(htl:ts.length≤500000)(hasc:∀i,bz s i<128)(hb:bz s a=34∨bz s a=39)
  (hpu:∀ (d:ByteArray) (b:Nat) (w':World),Keep w0 w'→(b=8∨b=10∨b=16)→d.size≤100000→cz b d=true→Calls prog 107 #[.string d,.int .i64 b,.int .i64 64] w' (dO d b w')):
  Calls prog 21 #[.pointer (some ⟨lb,0,none⟩),.string bk] w (GoPost w0 lb s a ts m):=by
 obtain⟨ln,bg,iv,tv,xs,hl1,-⟩:=h.st;obtain⟨b,c0,c1,-⟩:=hl1.facts;have H:=Z h;have haz:(0:Int)≤(a:Int):=by omega
 have haz1:(a:Int) < (s.size:Int):=by omega
 have haz2:(a:Int)≤(s.size:Int):=by omega
 have HBA:=Z (aq ha);obtain⟨r,hr⟩:∃r,s.extract a s.size=r:=⟨_,rfl⟩;have HR:=Z (show Rest s a r by rw[←hr];exact Rest.ext s a (by omega));have hrs:=HR.size;have hr0:0<r.size:=by omega
 have HRS:=Z hrs;have hr2:r.size≤100000:=by omega
 clear h hl1 hrs;obtain⟨c,hcc⟩:∃c:Int,((s[a]'ha).toNat:Int)=c:=⟨_,rfl⟩;have HC:=Z (show bz s a=c from HBA.trans hcc);have HB0:=Z hb;have HV:=Z fun(v:ByteArray) (w':World) (k:Keep w0 w') (h1:v.size≤100000)=>nA w0 v h1 w' k hpu
 clear hpu;rcases hb with hb|hb
 ·have hc:c=34:=HC.symm.trans hb;subst hc;clear hb;go_enter func21,ntmps21;go_wp2_with fail;go_quiet (fail);go_wp2_with (first|(go_at_call 42;refine(ah _ _).mono ?_;rintro e w' ⟨rfl,rfl⟩;rw[show bB 34=false from rfl])|(go_at_call 43;refine(ai _ _).mono ?_;rintro e w' ⟨rfl,rfl⟩;rw[show aV 34=false from rfl])|(go_at_call 45;refine(mt w0 lb s r hs a m ts bk _ (H.kp ((Fr.refl w).drewNf _)) HR.out ha HB0.out hasc hm htl HV.out).mono ?_;rintro e w2 ⟨b,a',m',how',ts',rfl,hh⟩));go_ret;exact⟨b,a',m',how',ts',rfl,hh⟩
 ·have hc:c=39:=HC.symm.trans hb;subst hc;clear hb;go_enter func21,ntmps21;go_wp2_with fail;go_quiet (fail);go_wp2_with (first|(go_at_call 42;refine(ah _ _).mono ?_;rintro e w' ⟨rfl,rfl⟩;rw[show bB 39=false from rfl])|(go_at_call 43;refine(ai _ _).mono ?_;rintro e w' ⟨rfl,rfl⟩;rw[show aV 39=false from rfl])|(go_at_call 45;refine(mt w0 lb s r hs a m ts bk _ (H.kp ((Fr.refl w).drewNf _)) HR.out ha HB0.out hasc hm htl HV.out).mono ?_;rintro e w2 ⟨b,a',m',how',ts',rfl,hh⟩));go_ret;exact⟨b,a',m',how',ts',rfl,hh⟩
theorem sl(w0:World)(lb:Nat)(s:ByteArray)(hs:s.size≤100000)(a m:Nat)(ts:List Tk)(bk:ByteArray)(w:World)(h:LM w0 lb s a 0 ts m w)(ha:a<s.size)(hm:m≤500000)(htl:ts.length≤500000)(hb:bz s a∈gG)(h46:bz s a=46→a+1<s.size→aV (bz s (a+1))=false)(h47:bz s a=47→a+1<s.size→bz s (a+1)≠47∧bz s (a+1)≠42):
  Calls prog 21 #[.pointer (some ⟨lb,0,none⟩),.string bk] w (GoPost w0 lb s a ts m):=by
 obtain⟨ln,bg,iv,tv,xs,hl1,-⟩:=h.st;obtain⟨b,c0,c1,-⟩:=hl1.facts;have H:=Z h;have haz:(0:Int)≤(a:Int):=by omega
 have haz1:(a:Int) < (s.size:Int):=by omega
 have haz2:(a:Int)≤(s.size:Int):=by omega
 have HBA:=Z (aq ha);obtain⟨r,hr⟩:∃r,s.extract a s.size=r:=⟨_,rfl⟩;have HR:=Z (show Rest s a r by rw[←hr];exact Rest.ext s a (by omega));have hrs:=HR.size;have hr0:0<r.size:=by omega
 have HRS:=Z hrs;have hr2:r.size≤100000:=by omega
 clear h hl1 hrs;obtain⟨c,hcc⟩:∃c:Int,((s[a]'ha).toNat:Int)=c:=⟨_,rfl⟩;have HC:=Z (show bz s a=c from HBA.trans hcc);have H46:=Z h46;have H47:=Z h47;simp only[gG,List.mem_cons,List.not_mem_nil,or_false] at hb;rcases hb with hb|hb|hb|hb|hb|hb|hb|hb|hb|hb|hb|hb|hb|hb|hb
 ·have hc:c=59:=HC.symm.trans hb;subst hc;clear hb h46 h47;go_enter func21,ntmps21;go_wp2_with fail;go_quiet (fail);go_wp2_with (first|(go_at_call 42;refine(ah _ _).mono ?_;rintro e w' ⟨rfl,rfl⟩;rw[show bB 59=false from rfl])|(go_at_call_of 43 (Value.int .u8 59);refine(ai _ _).mono ?_;rintro e w' ⟨rfl,rfl⟩;rw[show aV 59=false from rfl])|(go_at_call 20;refine(aK w0 lb s hs a 1 m 0 ts 5 bk _ (H.kp ((Fr.refl w).drewNf _)) ha hm htl).mono ?_;rintro e w4 ⟨g,rfl,hg⟩));go_ret;exact GoPost.tok (TokP.sym (g:=g) ha hs (by rw[HC.out];decide) H46.out H47.out hg)
 ·have hc:c=44:=HC.symm.trans hb;subst hc;clear hb h46 h47;go_enter func21,ntmps21;go_wp2_with fail;go_quiet (fail);go_wp2_with (first|(go_at_call 42;refine(ah _ _).mono ?_;rintro e w' ⟨rfl,rfl⟩;rw[show bB 44=false from rfl])|(go_at_call_of 43 (Value.int .u8 44);refine(ai _ _).mono ?_;rintro e w' ⟨rfl,rfl⟩;rw[show aV 44=false from rfl])|(go_at_call 20;refine(aK w0 lb s hs a 1 m 0 ts 5 bk _ (H.kp ((Fr.refl w).drewNf _)) ha hm htl).mono ?_;rintro e w4 ⟨g,rfl,hg⟩));go_ret;exact GoPost.tok (TokP.sym (g:=g) ha hs (by rw[HC.out];decide) H46.out H47.out hg)
 ·have hc:c=46:=HC.symm.trans hb;subst hc;by_cases h1:1<r.size
  ·have hrz:(r.size:Int) >1:=by omega
   have hrz':(1:Int) < (r.size:Int):=by omega
   have HD1:=Z (show aV ((r[1]'h1).toNat:Int)=false by rw[←aq h1,HR.bz];exact h46 hb (by have:=HRS.out;omega));clear hb h46 h47;go_enter func21,ntmps21;go_wp2_with fail;go_quiet (fail);go_wp2_with (first|(go_at_call 42;refine(ah _ _).mono ?_;rintro e w' ⟨rfl,rfl⟩;rw[show bB 46=false from rfl])|(go_at_call_of 43 (Value.int .u8 46);refine(ai _ _).mono ?_;rintro e w' ⟨rfl,rfl⟩;rw[show aV 46=false from rfl])|(go_at_call 43;refine(ai _ _).mono ?_;rintro e w' ⟨rfl,rfl⟩;rw[HD1.out])|(go_at_call 20;refine(aK w0 lb s hs a 1 m 0 ts 5 bk _ (H.kp ((Fr.refl w).drewNf _)) ha hm htl).mono ?_;rintro e w4 ⟨g,rfl,hg⟩));go_ret;exact GoPost.tok (TokP.sym (g:=g) ha hs (by rw[HC.out];decide) H46.out H47.out hg)
  ·have hrz:¬ (r.size:Int) >1:=by omega
   have hrz':¬ (1:Int) < (r.size:Int):=by omega
   clear hb h46 h47;go_enter func21,ntmps21;go_wp2_with fail;go_quiet (fail);go_wp2_with (first|(go_at_call 42;refine(ah _ _).mono ?_;rintro e w' ⟨rfl,rfl⟩;rw[show bB 46=false from rfl])|(go_at_call_of 43 (Value.int .u8 46);refine(ai _ _).mono ?_;rintro e w' ⟨rfl,rfl⟩;rw[show aV 46=false from rfl])|(go_at_call 20;refine(aK w0 lb s hs a 1 m 0 ts 5 bk _ (H.kp ((Fr.refl w).drewNf _)) ha hm htl).mono ?_;rintro e w4 ⟨g,rfl,hg⟩));go_ret;exact GoPost.tok (TokP.sym (g:=g) ha hs (by rw[HC.out];decide) H46.out H47.out hg)
 ·have hc:c=47:=HC.symm.trans hb;subst hc;by_cases h1:1<r.size
  ·have hrz:(r.size:Int) >1:=by omega
   have hrz':(1:Int) < (r.size:Int):=by omega
   have hh:=h47 hb (by have:=HRS.out;omega);rw[←HR.bz 1,aq h1] at hh;have q47:(((r[1]'h1).toNat:Int) ==47)=false:=beq_eq_false_iff_ne.2 hh.1;have q42:(((r[1]'h1).toNat:Int) ==42)=false:=beq_eq_false_iff_ne.2 hh.2;clear hb h46 h47 hh;go_enter func21,ntmps21;go_wp2_with fail;go_quiet (fail);go_wp2_with (first|(go_at_call 42;refine(ah _ _).mono ?_;rintro e w' ⟨rfl,rfl⟩;rw[show bB 47=false from rfl])|(go_at_call_of 43 (Value.int .u8 47);refine(ai _ _).mono ?_;rintro e w' ⟨rfl,rfl⟩;rw[show aV 47=false from rfl])|(go_at_call 20;refine(aK w0 lb s hs a 1 m 0 ts 5 bk _ (H.kp ((Fr.refl w).drewNf _)) ha hm htl).mono ?_;rintro e w4 ⟨g,rfl,hg⟩));go_ret;exact GoPost.tok (TokP.sym (g:=g) ha hs (by rw[HC.out];decide) H46.out H47.out hg)
  ·have hrz:¬ (r.size:Int) >1:=by omega
   have hrz':¬ (1:Int) < (r.size:Int):=by omega
   clear hb h46 h47;go_enter func21,ntmps21;go_wp2_with fail;go_quiet (fail);go_wp2_with (first|(go_at_call 42;refine(ah _ _).mono ?_;rintro e w' ⟨rfl,rfl⟩;rw[show bB 47=false from rfl])|(go_at_call_of 43 (Value.int .u8 47);refine(ai _ _).mono ?_;rintro e w' ⟨rfl,rfl⟩;rw[show aV 47=false from rfl])|(go_at_call 20;refine(aK w0 lb s hs a 1 m 0 ts 5 bk _ (H.kp ((Fr.refl w).drewNf _)) ha hm htl).mono ?_;rintro e w4 ⟨g,rfl,hg⟩));go_ret;exact GoPost.tok (TokP.sym (g:=g) ha hs (by rw[HC.out];decide) H46.out H47.out hg)
 ·have hc:c=58:=HC.symm.trans hb;subst hc;clear hb h46 h47;go_enter func21,ntmps21;go_wp2_with fail;go_quiet (fail);go_wp2_with (first|(go_at_call 42;refine(ah _ _).mono ?_;rintro e w' ⟨rfl,rfl⟩;rw[show bB 58=false from rfl])|(go_at_call_of 43 (Value.int .u8 58);refine(ai _ _).mono ?_;rintro e w' ⟨rfl,rfl⟩;rw[show aV 58=false from rfl])|(go_at_call 20;refine(aK w0 lb s hs a 1 m 0 ts 5 bk _ (H.kp ((Fr.refl w).drewNf _)) ha hm htl).mono ?_;rintro e w4 ⟨g,rfl,hg⟩));go_ret;exact GoPost.tok (TokP.sym (g:=g) ha hs (by rw[HC.out];decide) H46.out H47.out hg)
 ·have hc:c=61:=HC.symm.trans hb;subst hc;clear hb h46 h47;go_enter func21,ntmps21;go_wp2_with fail;go_quiet (fail);go_wp2_with (first|(go_at_call 42;refine(ah _ _).mono ?_;rintro e w' ⟨rfl,rfl⟩;rw[show bB 61=false from rfl])|(go_at_call_of 43 (Value.int .u8 61);refine(ai _ _).mono ?_;rintro e w' ⟨rfl,rfl⟩;rw[show aV 61=false from rfl])|(go_at_call 20;refine(aK w0 lb s hs a 1 m 0 ts 5 bk _ (H.kp ((Fr.refl w).drewNf _)) ha hm htl).mono ?_;rintro e w4 ⟨g,rfl,hg⟩));go_ret;exact GoPost.tok (TokP.sym (g:=g) ha hs (by rw[HC.out];decide) H46.out H47.out hg)
 ·have hc:c=45:=HC.symm.trans hb;subst hc;clear hb h46 h47;go_enter func21,ntmps21;go_wp2_with fail;go_quiet (fail);go_wp2_with (first|(go_at_call 42;refine(ah _ _).mono ?_;rintro e w' ⟨rfl,rfl⟩;rw[show bB 45=false from rfl])|(go_at_call_of 43 (Value.int .u8 45);refine(ai _ _).mono ?_;rintro e w' ⟨rfl,rfl⟩;rw[show aV 45=false from rfl])|(go_at_call 20;refine(aK w0 lb s hs a 1 m 0 ts 5 bk _ (H.kp ((Fr.refl w).drewNf _)) ha hm htl).mono ?_;rintro e w4 ⟨g,rfl,hg⟩));go_ret;exact GoPost.tok (TokP.sym (g:=g) ha hs (by rw[HC.out];decide) H46.out H47.out hg)
 ·have hc:c=40:=HC.symm.trans hb;subst hc;clear hb h46 h47;go_enter func21,ntmps21;go_wp2_with fail;go_quiet (fail);go_wp2_with (first|(go_at_call 42;refine(ah _ _).mono ?_;rintro e w' ⟨rfl,rfl⟩;rw[show bB 40=false from rfl])|(go_at_call_of 43 (Value.int .u8 40);refine(ai _ _).mono ?_;rintro e w' ⟨rfl,rfl⟩;rw[show aV 40=false from rfl])|(go_at_call 20;refine(aK w0 lb s hs a 1 m 0 ts 5 bk _ (H.kp ((Fr.refl w).drewNf _)) ha hm htl).mono ?_;rintro e w4 ⟨g,rfl,hg⟩));go_ret;exact GoPost.tok (TokP.sym (g:=g) ha hs (by rw[HC.out];decide) H46.out H47.out hg)
 ·have hc:c=41:=HC.symm.trans hb;subst hc;clear hb h46 h47;go_enter func21,ntmps21;go_wp2_with fail;go_quiet (fail);go_wp2_with (first|(go_at_call 42;refine(ah _ _).mono ?_;rintro e w' ⟨rfl,rfl⟩;rw[show bB 41=false from rfl])|(go_at_call_of 43 (Value.int .u8 41);refine(ai _ _).mono ?_;rintro e w' ⟨rfl,rfl⟩;rw[show aV 41=false from rfl])|(go_at_call 20;refine(aK w0 lb s hs a 1 m 0 ts 5 bk _ (H.kp ((Fr.refl w).drewNf _)) ha hm htl).mono ?_;rintro e w4 ⟨g,rfl,hg⟩));go_ret;exact GoPost.tok (TokP.sym (g:=g) ha hs (by rw[HC.out];decide) H46.out H47.out hg)
 ·have hc:c=123:=HC.symm.trans hb;subst hc;clear hb h46 h47;go_enter func21,ntmps21;go_wp2_with fail;go_quiet (fail);go_wp2_with (first|(go_at_call 42;refine(ah _ _).mono ?_;rintro e w' ⟨rfl,rfl⟩;rw[show bB 123=false from rfl])|(go_at_call_of 43 (Value.int .u8 123);refine(ai _ _).mono ?_;rintro e w' ⟨rfl,rfl⟩;rw[show aV 123=false from rfl])|(go_at_call 20;refine(aK w0 lb s hs a 1 m 0 ts 5 bk _ (H.kp ((Fr.refl w).drewNf _)) ha hm htl).mono ?_;rintro e w4 ⟨g,rfl,hg⟩));go_ret;exact GoPost.tok (TokP.sym (g:=g) ha hs (by rw[HC.out];decide) H46.out H47.out hg)
 ·have hc:c=125:=HC.symm.trans hb;subst hc;clear hb h46 h47;go_enter func21,ntmps21;go_wp2_with fail;go_quiet (fail);go_wp2_with (first|(go_at_call 42;refine(ah _ _).mono ?_;rintro e w' ⟨rfl,rfl⟩;rw[show bB 125=false from rfl])|(go_at_call_of 43 (Value.int .u8 125);refine(ai _ _).mono ?_;rintro e w' ⟨rfl,rfl⟩;rw[show aV 125=false from rfl])|(go_at_call 20;refine(aK w0 lb s hs a 1 m 0 ts 5 bk _ (H.kp ((Fr.refl w).drewNf _)) ha hm htl).mono ?_;rintro e w4 ⟨g,rfl,hg⟩));go_ret;exact GoPost.tok (TokP.sym (g:=g) ha hs (by rw[HC.out];decide) H46.out H47.out hg)
 ·have hc:c=91:=HC.symm.trans hb;subst hc;clear hb h46 h47;go_enter func21,ntmps21;go_wp2_with fail;go_quiet (fail);go_wp2_with (first|(go_at_call 42;refine(ah _ _).mono ?_;rintro e w' ⟨rfl,rfl⟩;rw[show bB 91=false from rfl])|(go_at_call_of 43 (Value.int .u8 91);refine(ai _ _).mono ?_;rintro e w' ⟨rfl,rfl⟩;rw[show aV 91=false from rfl])|(go_at_call 20;refine(aK w0 lb s hs a 1 m 0 ts 5 bk _ (H.kp ((Fr.refl w).drewNf _)) ha hm htl).mono ?_;rintro e w4 ⟨g,rfl,hg⟩));go_ret;exact GoPost.tok (TokP.sym (g:=g) ha hs (by rw[HC.out];decide) H46.out H47.out hg)
 ·have hc:c=93:=HC.symm.trans hb;subst hc;clear hb h46 h47;go_enter func21,ntmps21;go_wp2_with fail;go_quiet (fail);go_wp2_with (first|(go_at_call 42;refine(ah _ _).mono ?_;rintro e w' ⟨rfl,rfl⟩;rw[show bB 93=false from rfl])|(go_at_call_of 43 (Value.int .u8 93);refine(ai _ _).mono ?_;rintro e w' ⟨rfl,rfl⟩;rw[show aV 93=false from rfl])|(go_at_call 20;refine(aK w0 lb s hs a 1 m 0 ts 5 bk _ (H.kp ((Fr.refl w).drewNf _)) ha hm htl).mono ?_;rintro e w4 ⟨g,rfl,hg⟩));go_ret;exact GoPost.tok (TokP.sym (g:=g) ha hs (by rw[HC.out];decide) H46.out H47.out hg)
 ·have hc:c=60:=HC.symm.trans hb;subst hc;clear hb h46 h47;go_enter func21,ntmps21;go_wp2_with fail;go_quiet (fail);go_wp2_with (first|(go_at_call 42;refine(ah _ _).mono ?_;rintro e w' ⟨rfl,rfl⟩;rw[show bB 60=false from rfl])|(go_at_call_of 43 (Value.int .u8 60);refine(ai _ _).mono ?_;rintro e w' ⟨rfl,rfl⟩;rw[show aV 60=false from rfl])|(go_at_call 20;refine(aK w0 lb s hs a 1 m 0 ts 5 bk _ (H.kp ((Fr.refl w).drewNf _)) ha hm htl).mono ?_;rintro e w4 ⟨g,rfl,hg⟩));go_ret;exact GoPost.tok (TokP.sym (g:=g) ha hs (by rw[HC.out];decide) H46.out H47.out hg)
 ·have hc:c=62:=HC.symm.trans hb;subst hc;clear hb h46 h47;go_enter func21,ntmps21;go_wp2_with fail;go_quiet (fail);go_wp2_with (first|(go_at_call 42;refine(ah _ _).mono ?_;rintro e w' ⟨rfl,rfl⟩;rw[show bB 62=false from rfl])|(go_at_call_of 43 (Value.int .u8 62);refine(ai _ _).mono ?_;rintro e w' ⟨rfl,rfl⟩;rw[show aV 62=false from rfl])|(go_at_call 20;refine(aK w0 lb s hs a 1 m 0 ts 5 bk _ (H.kp ((Fr.refl w).drewNf _)) ha hm htl).mono ?_;rintro e w4 ⟨g,rfl,hg⟩));go_ret;exact GoPost.tok (TokP.sym (g:=g) ha hs (by rw[HC.out];decide) H46.out H47.out hg)
theorem so(w0:World)(lb:Nat)(s:ByteArray)(hs:s.size≤100000)(a m:Nat)(ts:List Tk)(bk:ByteArray)(w:World)(h:LM w0 lb s a 0 ts m w)(ha:a<s.size)(_hm:m≤500000)(_htl:ts.length≤500000)(hl:bB (bz s a)=false)(hd:aV (bz s a)=false)(hb:bz s a ∉ gG)(hq:bz s a≠34∧bz s a≠39):
  Calls prog 21 #[.pointer (some ⟨lb,0,none⟩),.string bk] w (GoPost w0 lb s a ts m):=by
 obtain⟨ln,bg,iv,tv,xs,hl1,-⟩:=h.st;obtain⟨b,c0,c1,-⟩:=hl1.facts;have H:=Z h;have haz:(0:Int)≤(a:Int):=by omega
 have haz1:(a:Int) < (s.size:Int):=by omega
 have haz2:(a:Int)≤(s.size:Int):=by omega
 have HBA:=Z (aq ha);obtain⟨r,hr⟩:∃r,s.extract a s.size=r:=⟨_,rfl⟩;have HR:=Z (show Rest s a r by rw[←hr];exact Rest.ext s a (by omega));have hrs:=HR.size;have hr0:0<r.size:=by omega
 have HRS:=Z hrs;have hr2:r.size≤100000:=by omega
 clear h hl1 hrs;obtain⟨c,hcc⟩:∃c:Int,((s[a]'ha).toNat:Int)=c:=⟨_,rfl⟩;have HC:=Z (show bz s a=c from HBA.trans hcc);rw[HC.out] at hl hd hb hq;have HL:=Z hl;have HD:=Z hd;simp only[gG,List.mem_cons,List.not_mem_nil,or_false,not_or] at hb;obtain⟨n59,n44,n46,n47,n58,n61,n45,n40,n41,n123,n125,n91,n93,n60,n62⟩:=hb;have q59:(c==59)=false:=beq_eq_false_iff_ne.2 n59;have q44:(c==44)=false:=beq_eq_false_iff_ne.2 n44;have q46:(c==46)=false:=beq_eq_false_iff_ne.2 n46;have q47:(c==47)=false:=beq_eq_false_iff_ne.2 n47;have q58:(c==58)=false:=beq_eq_false_iff_ne.2 n58;have q61:(c==61)=false:=beq_eq_false_iff_ne.2 n61;have q45:(c==45)=false:=beq_eq_false_iff_ne.2 n45;have q40:(c==40)=false:=beq_eq_false_iff_ne.2 n40;have q41:(c==41)=false:=beq_eq_false_iff_ne.2 n41;have q123:(c==123)=false:=beq_eq_false_iff_ne.2 n123;have q125:(c==125)=false:=beq_eq_false_iff_ne.2 n125;have q91:(c==91)=false:=beq_eq_false_iff_ne.2 n91;have q93:(c==93)=false:=beq_eq_false_iff_ne.2 n93;have q60:(c==60)=false:=beq_eq_false_iff_ne.2 n60;have q62:(c==62)=false:=beq_eq_false_iff_ne.2 n62;have q34:(c==34)=false:=beq_eq_false_iff_ne.2 hq.1;have q39:(c==39)=false:=beq_eq_false_iff_ne.2 hq.2;clear n59 n44 n46 n47 n58 n61 n45 n40 n41 n123 n125 n91 n93 n60 n62 hl hd hq;by_cases h43:c=43
 ·have q43:(c==43)=true:=by rw[h43];rfl
  clear h43;go_enter func21,ntmps21;go_wp2_with fail;go_quiet (fail);go_wp2_with (first|(go_at_call 42;refine(ah _ _).mono ?_;rintro e w' ⟨rfl,rfl⟩;rw[HL.out])|(go_at_call 43;refine(ai _ _).mono ?_;rintro e w' ⟨rfl,rfl⟩;rw[HD.out])|(go_at_call 46;refine(bu (H.kp ((Fr.refl w).drewNf _)) 2).mono ?_;rintro e w' ⟨rfl,hw⟩));go_ret;exact GoPost.bad hw (by first|exact fQ (by decide)|decide) (by omega)
 ·have q43:(c==43)=false:=beq_eq_false_iff_ne.2 h43;clear h43;go_enter func21,ntmps21;go_wp2_with fail;go_quiet (fail);go_wp2_with (first|(go_at_call 42;refine(ah _ _).mono ?_;rintro e w' ⟨rfl,rfl⟩;rw[HL.out])|(go_at_call 43;refine(ai _ _).mono ?_;rintro e w' ⟨rfl,rfl⟩;rw[HD.out])|(go_at_call 46;refine(bu (H.kp ((Fr.refl w).drewNf _)) 1).mono ?_;rintro e w' ⟨rfl,hw⟩));go_ret;exact GoPost.bad hw (by first|exact fQ (by decide)|decide) (by omega)
theorem sq(w0:World)(lb:Nat)(s:ByteArray)(hs:s.size≤100000)(a m:Nat)(ts:List Tk)(bk:ByteArray)(w:World)(h:LM w0 lb s a 0 ts m w)(ha:a<s.size)(hm:m≤500000)(htl:ts.length≤500000)(hasc:∀i,bz s i<128)
  (hpu:∀ (d:ByteArray) (b:Nat) (w':World),Keep w0 w'→(b=8∨b=10∨b=16)→d.size≤100000→cz b d=true→Calls prog 107 #[.string d,.int .i64 b,.int .i64 64] w' (dO d b w'))
  (hpf:∀ (d:ByteArray) (w':World),Keep w0 w'→d.size≤100000→RealOk d→Calls prog 109 #[.string d,.int .i64 64] w' (gW w')):
  Calls prog 21 #[.pointer (some ⟨lb,0,none⟩),.string bk] w (GoPost w0 lb s a ts m):=by
 cases hl:bB (bz s a)
 ·cases hd:aV (bz s a)
  ·by_cases hq:bz s a=34∨bz s a=39
   ·exact qD w0 lb s hs a m ts bk w h ha hm htl hasc hq hpu
   ·by_cases hb:bz s a∈gG
    ·by_cases hn:bz s a=46∧a+1<s.size∧aV (bz s (a+1))=true
     ·exact ii w0 lb s hs a m ts bk w h ha hm htl (.inr hn) hpu hpf
     ·by_cases hc:bz s a=47∧a+1<s.size∧(bz s (a+1)=47∨bz s (a+1)=42)
      ·exact lF w0 lb s hs a m ts bk w h ha hm htl hc.1 hc.2.1 hc.2.2
      ·refine sl w0 lb s hs a m ts bk w h ha hm htl hb (fun e h1=>?_) (fun e h1=>?_)
       ·cases hx:aV (bz s (a+1))
        ·rfl
        ·exact absurd ⟨e,h1,hx⟩ hn
       ·exact⟨fun e2=>hc ⟨e,h1,.inl e2⟩,fun e2=>hc ⟨e,h1,.inr e2⟩⟩
    ·exact so w0 lb s hs a m ts bk w h ha hm htl hl hd hb ⟨fun e=>hq (.inl e),fun e=>hq (.inr e)⟩
  ·exact ii w0 lb s hs a m ts bk w h ha hm htl (.inl hd) hpu hpf
 ·exact oe w0 lb s hs a m ts bk w h ha hm htl hl
def xR(t:Tk):Prop:=iC t∧t.raw.size≤100000∧t.val.size≤100000
structure LexOk(s:ByteArray)(ts:List Tk):Prop where
 good:∀t∈ts,xR t
 last:∃us t,ts=us++ [t]∧t.kind=6∧∀u∈us,u.kind≠6
 asc:∀i,bz s i<128
 lr:LR (tx s 0) (ts.map rR)
def pQ(s:ByteArray)(w:World)(e:Ending)(w':World):Prop:=
 ∃ (ia ta:Option Addr) (m ic tc:Nat) (how:Int) (ts:List Tk),e= .returned (.tuple #[.slice ia m ic,.slice ta ts.length tc,.int .i64 how])∧Keep w w'∧ts.length≤200000∧
  w'.ownsRow w.heap.size 48 5 (.slice ta ts.length tc) ts.length (bv ts)∧(how=0→LexOk s ts)
theorem uk{B B' e size n:Nat}{v:Value}{xs:List Value}{w:World}(h:w.ownsRow B e size v n xs)(hb:B'≤B):w.ownsRow B' e size v n xs:=by
 refine⟨h.1,?_⟩;rcases h.2 with hn|⟨g,cap,cur,rfl,hg,rest⟩
 ·exact .inl hn
 ·exact .inr ⟨g,cap,cur,rfl,Nat.le_trans hb hg,rest⟩
theorem LM.fin{w:World}{a m:Nat}{s:ByteArray}{how:Int}{ts:List Tk}{wr:World}(h:LM w w.heap.size s a how ts m wr):∃ (ln bg:Int) (ia ta:Option Addr) (ic tc:Nat),LBlk w.heap.size s a ln bg how (.slice ia m ic) (.slice ta ts.length tc) wr∧wr.ownsRow w.heap.size 48 5 (.slice ta ts.length tc) ts.length (bv ts):=by
 obtain⟨k,l,ln,bg,iv,tv,xs,h1,h2,h3,h4,h5,h6⟩:=h;obtain⟨ia,ic,rfl,-⟩:=gf h4;obtain⟨ta,tc,rfl,-⟩:=gf h5;exact⟨ln,bg,ia,ta,ic,tc,h1,uk h5 (by omega)⟩
structure LexAt(w:World)(s:ByteArray)(a:Nat)(how:Int)(ts:List Tk)(m:Nat)(wr:World):Prop where
 lm:LM w w.heap.size s a how ts m wr
 ma:m≤a
 sz:a≤s.size
 tm:ts.length≤m
 good:∀t∈ts,iC t∧t.kind≠6∧t.raw.size≤100000∧t.val.size≤100000
 lr:how=0→∀us,LR (tx s a) us→LR (tx s 0) (ts.map rR++us)
def sF(lb:Nat)(w:World):Nat:=match w.cell? ⟨lb,1,none⟩ with|some v=>br v|none=>0
theorem LM.pl{w0:World}{lb a m:Nat}{s:ByteArray}{how:Int}{ts:List Tk}{w:World}(h:LM w0 lb s a how ts m w):sF lb w=a:=by
 obtain⟨k,l,ln,bg,iv,tv,xs,h1,-⟩:=h;have:w.cell? ⟨lb,1,none⟩=some (.int .i64 a):=ab h1 1;unfold sF;rw[this];simp[br]
theorem sD{w:World}{s:ByteArray}{a m g:Nat}{ts:List Tk}{w4:World}(hasc:∀i,bz s i<128)(ha:a=s.size)(hgood:∀t∈ts,iC t∧t.kind≠6∧t.raw.size≤100000∧t.val.size≤100000)(hlr:∀us,LR (tx s a) us→LR (tx s 0) (ts.map rR++us))
  (_h:LMg w w.heap.size s (a+0) 0 (ts++ [⟨6,s.extract a (a+0),⟨#[]⟩,0,m⟩]) (m+1) g w4):LexOk s (ts++ [⟨6,s.extract a (a+0),⟨#[]⟩,0,m⟩]):=by
 refine⟨fun t ht=>?_,⟨ts,_,rfl,rfl,fun u hu=>(hgood u hu).2.1⟩,hasc,?_⟩
 ·rcases List.mem_append.1 ht with ht|ht
  ·have:=hgood t ht;exact⟨this.1,this.2.2.1,this.2.2.2⟩
  ·rw[List.mem_singleton] at ht;subst ht;refine⟨⟨fun e=>absurd (show(6:Int)=1 from e) (by decide),fun e=>absurd (show(6:Int)=5 from e) (by decide)⟩,?_,Nat.zero_le _⟩;simp only;rw[qo];omega
 ·rw[List.map_append];refine hlr _ ?_;have:tx s a=[]:=List.eq_nil_of_length_eq_zero (by rw[ec];omega);rw[this];exact LR.fin rfl
theorem uK(s:ByteArray)(hs:s.size≤100000)(w:World)
  (hpu:∀ (d:ByteArray) (b:Nat) (w':World),Keep w w'→(b=8∨b=10∨b=16)→d.size≤100000→cz b d=true→Calls prog 107 #[.string d,.int .i64 b,.int .i64 64] w' (dO d b w'))
  (hpf:∀ (d:ByteArray) (w':World),Keep w w'→d.size≤100000→RealOk d→Calls prog 109 #[.string d,.int .i64 64] w' (gW w')):
  Calls prog 13 #[.string s] w (pQ s w):=by
 have HPU:=Z hpu;have HPF:=Z hpf;clear hpu hpf;go_enter func13,ntmps13;go_wp2_with fail;refine aG (fun x=>Hid (LexAt w s 0 0 [] 0 x)) (Z ⟨⟨(Fr.refl w).alloc _,Nat.le_refl _,1,0,.slice none 0 0,.slice none 0 0,[],ql w _,by decide,by decide,World.ownsRow_nil _ _ _ _,World.ownsRow_nil _ _ _ _,fun g hg=>by cases hg⟩,Nat.le_refl _,Nat.zero_le _,Nat.le_refl _,fun t ht=>by simp at ht,fun _ us h=>h⟩) ?_;intro x X;go_loopw [13] (fun u wr=>wr=x∧∃k:Nat,u= .int .i64 k∧Hid (k≤s.size∧∀j,j<k→bz s j<128)) (fun u _=>s.size-br u)
 case atStart=>exact⟨rfl,0,rfl,Z ⟨Nat.zero_le _,fun j hj=>by omega⟩⟩
 case round=>
  obtain⟨rfl,k,rfl,HK⟩:=hrel;have hk0:(0:Int)≤(k:Int):=by omega
  by_cases hk:k<s.size
  ·have hkz:(k:Int) < (s.size:Int):=by omega
   have HBK:=Z (aq hk);have bad:pQ s w (.returned (.tuple #[.slice none 0 0,.slice none 0 0,.int .i64 2])) wr:=⟨none,none,0,0,0,2,[],rfl,X.lm.keep,by decide,World.ownsRow_nil _ _ _ _,fun e=>absurd e (by decide)⟩;have BAD:=Z bad;clear bad;by_cases h128:((s[k]'hk).toNat:Int)≥128
   ·go_wp2_with fail;go_ret3;exact BAD.out
   ·have HB:=Z h128;clear h128;have h128:((s[k]'hk).toNat:Int) <128:=by have:=HB.out;omega
    by_cases h12:((s[k]'hk).toNat:Int)=12
    ·have q12:(((s[k]'hk).toNat:Int) ==12)=true:=by rw[h12];rfl
     clear h12;go_wp2_with fail;go_ret3;exact BAD.out
    have q12:(((s[k]'hk).toNat:Int) ==12)=false:=by simpa using h12
    clear h12;by_cases h11:((s[k]'hk).toNat:Int)=11
    ·have q11:(((s[k]'hk).toNat:Int) ==11)=true:=by rw[h11];rfl
     clear h11;go_wp2_with fail;go_ret3;exact BAD.out
    have q11:(((s[k]'hk).toNat:Int) ==11)=false:=by simpa using h11
    clear h11;go_wp2_with fail;go_roundw
    case rel=>exact⟨by trivial,k+1,by simp,Z ⟨hk,fun j hj=>by
     rcases Nat.lt_or_ge j k with g|g
     ·exact HK.2 j g
     ·rw[show j=k from by omega,HBK.out];have:=HB.out;omega⟩⟩
    case measure=>simp only[br];omega
  ·have hkz:¬ (k:Int) < (s.size:Int):=by omega
   have hasc:∀i,bz s i<128:=by
    intro i;by_cases hi:i<s.size
    ·exact HK.2 i (by omega)
    ·unfold bz;rw[List.getD_eq_getElem?_getD,List.getElem?_eq_none (by rw[qi];show s.size≤i;omega)];decide
   have HASC:=Z hasc;clear hasc;go_wp2_with fail;go_loopw [] (fun wq=>∃ (a:Nat) (how:Int) (ts:List Tk) (m:Nat),Hid (LexAt w s a how ts m wq)) (fun wq=>s.size-sF w.heap.size wq)
   case atStart=>exact⟨0,0,[],0,X⟩
   case round=>
    obtain⟨a,how,ts,m,HL⟩:=hrel;obtain⟨ln,bg,ia,ta,ic,tc,hblk,hrow⟩:=HL.lm.fin;have HROW:=Z hrow;obtain⟨b,c0,c1,-,-,c4,c5,c6,-⟩:=hblk.facts;clear hrow hblk;by_cases hh:how=0
    ·have qh:(how==0)=true:=by rw[hh];rfl
     have HH:=Z hh;have HL0:=Z (show LM w w.heap.size s a 0 ts m wr from hh▸HL.lm);clear hh;go_wp2_with fail;refine(tw hs HL0 HL.sz).mono ?_;rintro e w2 ⟨t,a2,rfl,h2,h3,h4,h5,h6⟩;have H2:=Z h2;have H5:=Z h5;clear h2 h5 h6 b c0 c1 c4 c5 c6;obtain⟨ln2,bg2,ia2,ta2,ic2,tc2,hblk,hrow⟩:=H2.fin;obtain⟨b,c0,c1,-,-,c4,c5,c6,-⟩:=hblk.facts;have hma:=HL.ma;have htm:=HL.tm;clear hrow hblk;by_cases he:a2=s.size
     ·have qe:((a2:Int) == (s.size:Int))=true:=by rw[he];simp
      have HE:=Z he;clear he;go_wp2_with fail;refine(aK w w.heap.size s hs a2 0 m 0 ts 6 t w2 H2 (by have:=HE.out;omega) (by omega) (by omega)).mono ?_;rintro e w4 ⟨g,rfl,hg⟩;have HOK:=Z (sD HASC HE HL.good (fun us hu=>HL.lr HH us (H5 us hu)) hg);have HG:=Z hg.lm;clear hg b c0 c1 c4 c5 c6;obtain⟨ln3,bg3,ia3,ta3,ic3,tc3,hblk,hrow⟩:=HG.fin;obtain⟨b,c0,c1,-,-,c4,c5,c6,-⟩:=hblk.facts;have HR3:=Z hrow;clear hrow hblk;go_wp2_with fail;go_quiet (fail);go_wp2_with fail;go_ret3;exact⟨ia3,ta3,m+1,ic3,tc3,0,ts++ [⟨6,s.extract a2 (a2+0),⟨#[]⟩,0,m⟩],by rw[qk,List.length_singleton];rfl,HG.keep.drewNf _,by simp;omega,aQ HR3.out ((Fr.refl w4).drewNf _) (fun _ _ h=>h),fun _=>HOK.out⟩
     ·have qe:((a2:Int) == (s.size:Int))=false:=bf (by omega);go_wp2_with fail;refine(sq w w.heap.size s hs a2 m ts t w2 H2 (by omega) (by omega) (by omega) HASC HPU HPF).mono ?_;rintro e w4 ⟨b4,a4,m4,how4,ts4,rfl,h41,h42,h43,h44,h45,h46⟩;have H41:=Z h41;have H43:=Z h43;have H44:=Z h44;have H45:=Z h45;have H46:=Z h46;clear h41 h43 h44 h45 h46 b c0 c1 c4 c5 c6;cases b4
      ·obtain⟨ln3,bg3,ia3,ta3,ic3,tc3,hblk,hrow⟩:=H41.fin;obtain⟨b,c0,c1,-,-,c4,c5,c6,-⟩:=hblk.facts;have HR3:=Z hrow;clear hrow hblk;go_wp2_with fail;go_quiet (fail);go_wp2_with fail;go_ret3;exact⟨ia3,ta3,m4,ic3,tc3,how4,ts4,rfl,H41.keep.drewNf _,by rw[(H44.out (by first|rfl|trivial)).2.2];omega,aQ HR3.out ((Fr.refl w4).drewNf _) (fun _ _ h=>h),fun e=>absurd e (H44.out (by first|rfl|trivial)).1⟩
      ·go_wp2_with fail;go_roundw
       case rel=>exact⟨a4,how4,ts4,m4,Z ⟨H41,by have:=H43 (by first|rfl|trivial);omega,h42,by have:=H43 (by first|rfl|trivial);omega,H45 HL.good,fun e=>H46 e (fun us hu=>HL.lr HH us (H5 us hu))⟩⟩
       case measure=>
        rw[H41.pl,HL.lm.pl];have:=H43 (by first|rfl|trivial);omega
    ·have qh:(how==0)=false:=beq_eq_false_iff_ne.2 hh;have HH:=Z hh;clear hh;go_wp2_with fail;go_quiet (fail);go_wp2_with fail;go_ret3;exact⟨ia,ta,m,ic,tc,how,ts,rfl,HL.lm.keep.drewNf _,by have:=HL.tm;have:=HL.ma;have:=HL.sz;omega,aQ HROW ((Fr.refl wr).drewNf _) (fun _ _ h=>h),fun e=>absurd e HH⟩
end Go.Proofs.YtnclklfhjbkjhaaGreatDoor
