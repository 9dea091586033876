/- Part of the proof: H0 H1 H2 H3. -/
import Derived.Test.YtnclklfhjbkjhaaGreatDoorFc
set_option maxRecDepth 1000000
set_option maxHeartbeats 40000000
set_option linter.unusedSimpArgs false
namespace Go.Proofs.YtnclklfhjbkjhaaGreatDoor
open Tryz
open Go.RowKit
def rR(t:Tk):Pt:=⟨t.kind,t.raw.toList,t.val.toList⟩
def GoPost(w0:World)(lb:Nat)(s:ByteArray)(a:Nat)(ts:List Tk)(m:Nat)(e:Ending)(w':World):Prop:=
 ∃ (b:Bool) (a' m':Nat) (how':Int) (ts':List Tk),e= .returned (.bool b)∧LM w0 lb s a' how' ts' m' w'∧a'≤s.size∧(b=true→a<a'∧m'=m+1∧ts'.length≤ts.length+1)∧(b=false→how'≠0∧m'=m∧ts'=ts)∧
  ((∀t∈ts,iC t∧t.kind≠6∧t.raw.size≤100000∧t.val.size≤100000)→(∀t∈ts',iC t∧t.kind≠6∧t.raw.size≤100000∧t.val.size≤100000))∧
  (how'=0→(∀us,LR (tx s a) us→LR (tx s 0) (ts.map rR++us))→∀us,LR (tx s a') us→LR (tx s 0) (ts'.map rR++us))
theorem GoPost.bad{w0:World}{lb a m:Nat}{s:ByteArray}{ts:List Tk}{how:Int}{w':World}(hw:LM w0 lb s a how ts m w')(hh:how≠0)(ha:a≤s.size):GoPost w0 lb s a ts m (.returned (.bool false)) w':=
 ⟨false,a,m,how,ts,rfl,hw,ha,(fun h=>absurd h (by decide)),(fun _=>⟨hh,rfl,rfl⟩),(fun h=>h),(fun h=>absurd h hh)⟩
theorem GoPost.skip{w0:World}{lb a m n:Nat}{s:ByteArray}{ts:List Tk}{how:Int}{w':World}(hw:LM w0 lb s (a+n) how ts (m+1) w')(h0:0<n)(ha:a+n≤s.size)(hl:∀us,LR (tx s (a+n)) us→LR (tx s a) us):GoPost w0 lb s a ts m (.returned (.bool true)) w':=
 ⟨true,a+n,m+1,how,ts,rfl,hw,ha,(fun _=>⟨by omega,rfl,by omega⟩),(fun h=>absurd h (by decide)),(fun h=>h),(fun _ h us hu=>h us (hl us hu))⟩
theorem po{s:ByteArray}{a n:Nat}(hn:2≤n)(han:a+n≤s.size)(h0:bz s a=47)(h1:bz s (a+1)=47)(hb:∀x,2≤x→x<n→bz s (a+x)≠10)(he:a+n<s.size→bz s (a+n)=10){us:List Pt}(h:LR (tx s (a+n)) us):LR (tx s a) us:=by
 rw[aL (by omega),aL (by omega),h0,h1,o6 (show a+1+1≤a+n by omega)];refine LR.line ?_ ?_ h
 ·intro x hx;obtain⟨k,k1,k2,rfl⟩:=cJ han hx;have:=hb (k-a) (by omega) (by omega)
  rwa [show a+(k-a)=k from by omega] at this
 ·intro x hx;obtain⟨k1,rfl⟩:=fU hx;exact he k1
theorem nH{s:ByteArray}{a n:Nat}(hn:4≤n)(han:a+n≤s.size)(h0:bz s a=47)(h1:bz s (a+1)=42)(hb:∀x,4≤x→x<n→¬ (bz s (a+x-2)=42∧bz s (a+x-1)=47))(e1:bz s (a+n-2)=42)(e2:bz s (a+n-1)=47){us:List Pt}(h:LR (tx s (a+n)) us):LR (tx s a) us:=by
 rw[aL (by omega),aL (by omega),h0,h1,o6 (show a+1+1≤a+n-2 by omega),aL (i:=a+n-2) (by omega),show a+n-2+1=a+n-1 from by omega,aL (i:=a+n-1) (by omega),e1,e2,show a+n-1+1=a+n from by omega];refine LR.block ?_ h;intro u v e;obtain⟨k,k1,k2,k3,k4⟩:=wI (by omega) e;refine hb (k-a+2) (by omega) (by omega) ⟨?_,?_⟩
 ·rwa [show a+(k-a+2) -2=k from by omega]
 ·rwa [show a+(k-a+2) -1=k+1 from by omega]
theorem io(w0:World)(lb:Nat)(s r:ByteArray)(hs:s.size≤100000)(a m:Nat)(ts:List Tk)(bk:ByteArray)(w:World)(h:LM w0 lb s a 0 ts m w)(hr:Rest s a r)(h1:a+1<s.size)(b0:bz s a=47)(b1:bz s (a+1)=47∨bz s (a+1)=42)(hm:m≤500000):
  Calls prog 41 #[.pointer (some ⟨lb,0,none⟩),.string bk,.string r] w (GoPost w0 lb s a ts m):=by
 have H:=Z h;have hrs:=hr.size;have HR:=Z hr;have h1r:1<r.size:=by omega
 have hrz:(1:Int) < (r.size:Int):=by omega
 have HB1:=Z (aq h1r);have e1:((r[1]'h1r).toNat:Int)=bz s (a+1):=by rw[←aq h1r,hr.bz]
 have hr2:r.size≤100000:=by omega
 have HRS:=Z hrs;have HB0:=Z b0;clear h hr hrs b0;go_enter func41,ntmps41;go_upto_region 1 with fail;go_cut [7] (fun s7 wx=>s7= .int .i64 2∧wx=w)
 case first=>
  go_wp2_with fail;go_meet;exact⟨rfl,rfl⟩
 case rest=>
  obtain⟨rfl,rfl⟩:=hcut;go_step;go_step;go_cut [7] (fun s7 wx=>wx=wc∧∃n:Nat,s7= .int .i64 n∧Hid (2≤n∧n≤r.size∧∀us,LR (tx s (a+n)) us→LR (tx s a) us))
  case first=>
   by_cases hq:((r[1]'h1r).toNat:Int)=47
   ·have q47:(((r[1]'h1r).toNat:Int) ==47)=true:=by rw[hq];rfl
    have HQ:=Z (e1.symm.trans hq);clear hq e1 b1;go_wp2_with fail;go_loopw [7] (fun s7 wr=>wr=wc∧∃n:Nat,s7= .int .i64 n∧Hid (2≤n∧n≤r.size∧∀x,2≤x→x<n→bz s (a+x)≠10)) (fun s7 _=>r.size-br s7)
    case atStart=>exact⟨rfl,2,rfl,Z ⟨Nat.le_refl _,h1r,fun x h1 h2=>by omega⟩⟩
    case round=>
     obtain⟨rfl,n,rfl,HN⟩:=hrel;by_cases hm:n<r.size
     ·have hmz:(n:Int) < (r.size:Int):=by omega
      have HBZ:=Z ((HR.bz n).symm.trans (aq hm));by_cases h10:((r[n]'hm).toNat:Int)=10
      ·have q10:(((r[n]'hm).toNat:Int) !=10)=false:=by rw[h10];rfl
       have H10:=Z h10;clear h10;go_wp2_with fail;go_meet;exact⟨rfl,n,rfl,Z ⟨HN.1,HN.2.1,fun us hus=>po HN.1 (by have:=HRS.out;omega) HB0.out HQ.out HN.2.2 (fun _=>by rw[HBZ.out];exact H10.out) hus⟩⟩
      ·have q10:(((r[n]'hm).toNat:Int) !=10)=true:=by simpa using h10
       have H10:=Z h10;clear h10;go_wp2_with fail;go_roundw
       case rel=>exact⟨by trivial,n+1,by simp,Z ⟨by have:=HN.1;omega,hm,fun x g1 g2=>by
        rcases Nat.lt_or_ge x n with h|h
        ·exact HN.2.2 x g1 h
        ·rw[show x=n from by omega,HBZ.out];exact H10.out⟩⟩
       case measure=>simp only[br];omega
     ·have hmz:¬ (n:Int) < (r.size:Int):=by omega
      go_wp2_with fail;go_meet;exact⟨rfl,n,rfl,Z ⟨HN.1,HN.2.1,fun us hus=>po HN.1 (by have:=HRS.out;have:=HN.2.1;omega) HB0 HQ HN.2.2 (fun h=>by have:=HRS.out;omega) hus⟩⟩
   ·have q47:(((r[1]'h1r).toNat:Int) ==47)=false:=by simpa using hq
    have HQ:Hid (bz s (a+1)=42):=Z (b1.resolve_left fun e=>hq (e1.trans e));clear hq e1 b1;go_wp2_with fail;go_loopw [7] (fun s7 wr=>wr=wc∧∃n:Nat,s7= .int .i64 n∧Hid (2≤n∧n≤r.size∧∀x,4≤x→x<n→¬ (bz s (a+x-2)=42∧bz s (a+x-1)=47))) (fun s7 _=>r.size-br s7)
    case atStart=>exact⟨rfl,2,rfl,Z ⟨Nat.le_refl _,h1r,fun x h1 h2=>by omega⟩⟩
    case round=>
     obtain⟨rfl,n,rfl,HN⟩:=hrel;have hns:(n:Int)≤(r.size:Int):=by have:=HN.2.1;omega
     have hn2:(2:Int)≤(n:Int):=by have:=HN.1;omega
     by_cases hm:n<r.size
     ·have hmz:(n:Int) < (r.size:Int):=by omega
      by_cases h3:3<n
      ·have h3z:(n:Int) >3:=by omega
       have h4z:¬ (n:Int) <4:=by omega
       have hz2:((n:Int) -2).toNat=n-2:=by omega
       have hz1:((n:Int) -1).toNat=n-1:=by omega
       have hy2:(0:Int)≤(n:Int) -2:=by omega
       have hy1:(0:Int)≤(n:Int) -1:=by omega
       have hx2:(n:Int) -2< (r.size:Int):=by omega
       have hx1:(n:Int) -1< (r.size:Int):=by omega
       have hv2:n-2<r.size:=by omega
       have hv1:n-1<r.size:=by omega
       have HZ2:=Z ((HR.bz (n-2)).symm.trans (aq hv2));have HZ1:=Z ((HR.bz (n-1)).symm.trans (aq hv1));by_cases h2:((r[n-2]'hv2).toNat:Int)=42
       ·have q2:(((r[n-2]'hv2).toNat:Int) ==42)=true:=by rw[h2];rfl
        have q2n:(((r[n-2]'hv2).toNat:Int) !=42)=false:=by rw[h2];rfl
        have G2:=Z h2;clear h2;by_cases h1:((r[n-1]'hv1).toNat:Int)=47
        ·have q1:(((r[n-1]'hv1).toNat:Int) ==47)=true:=by rw[h1];rfl
         have q1n:(((r[n-1]'hv1).toNat:Int) !=47)=false:=by rw[h1];rfl
         have G1:=Z h1;clear h1;go_wp2_with fail;go_meet;exact⟨rfl,n,rfl,Z ⟨HN.1,HN.2.1,fun us hus=>nH (n:=n) (by omega) (by have:=HRS.out;have:=HN.2.1;omega) HB0.out HQ.out HN.2.2 (by rw[show a+n-2=a+(n-2) from by omega,HZ2.out];exact G2.out) (by rw[show a+n-1=a+(n-1) from by omega,HZ1.out];exact G1.out) hus⟩⟩
        ·have q1:(((r[n-1]'hv1).toNat:Int) ==47)=false:=by simpa using h1
         have q1n:(((r[n-1]'hv1).toNat:Int) !=47)=true:=by simpa using h1
         have G1:=Z h1;clear h1;go_wp2_with fail;go_roundw
         case rel=>exact⟨by trivial,n+1,by simp,Z ⟨by have:=HN.1;omega,hm,fun x g1 g2=>by
          rcases Nat.lt_or_ge x n with h|h
          ·exact HN.2.2 x g1 h
          ·rintro⟨u1,u2⟩;have hxn:x=n:=by omega
           subst hxn;exact G1.out (by rw[←HZ1.out,show a+(x-1)=a+x-1 from by omega];exact u2)⟩⟩
         case measure=>simp only[br];omega
       ·have q2:(((r[n-2]'hv2).toNat:Int) ==42)=false:=by simpa using h2
        have q2n:(((r[n-2]'hv2).toNat:Int) !=42)=true:=by simpa using h2
        have G2:=Z h2;clear h2;go_wp2_with fail;go_roundw
        case rel=>exact⟨by trivial,n+1,by simp,Z ⟨by have:=HN.1;omega,hm,fun x g1 g2=>by
         rcases Nat.lt_or_ge x n with h|h
         ·exact HN.2.2 x g1 h
         ·rintro⟨u1,u2⟩;have hxn:x=n:=by omega
          subst hxn;exact G2.out (by rw[←HZ2.out,show a+(x-2)=a+x-2 from by omega];exact u1)⟩⟩
        case measure=>simp only[br];omega
      ·have h3z:¬ (n:Int) >3:=by omega
       have h3z':¬ (3:Int) < (n:Int):=by omega
       go_wp2_with fail;go_roundw
       case rel=>exact⟨by trivial,n+1,by simp,Z ⟨by have:=HN.1;omega,hm,fun x g1 g2=>by
        rcases Nat.lt_or_ge x n with h|h
        ·exact HN.2.2 x g1 h
        ·omega⟩⟩
       case measure=>simp only[br];omega
     ·have hmz:¬ (n:Int) < (r.size:Int):=by omega
      by_cases h3:3<n
      ·have h4z:¬ (n:Int) <4:=by omega
       have hz2:((n:Int) -2).toNat=n-2:=by omega
       have hz1:((n:Int) -1).toNat=n-1:=by omega
       have hy2:(0:Int)≤(n:Int) -2:=by omega
       have hy1:(0:Int)≤(n:Int) -1:=by omega
       have hx2:(n:Int) -2< (r.size:Int):=by omega
       have hx1:(n:Int) -1< (r.size:Int):=by omega
       have hv2:n-2<r.size:=by omega
       have hv1:n-1<r.size:=by omega
       have HZ2:=Z ((HR.bz (n-2)).symm.trans (aq hv2));have HZ1:=Z ((HR.bz (n-1)).symm.trans (aq hv1));by_cases h2:((r[n-2]'hv2).toNat:Int)=42
       ·have q2:(((r[n-2]'hv2).toNat:Int) ==42)=true:=by rw[h2];rfl
        have q2n:(((r[n-2]'hv2).toNat:Int) !=42)=false:=by rw[h2];rfl
        have G2:=Z h2;clear h2;by_cases h1:((r[n-1]'hv1).toNat:Int)=47
        ·have q1:(((r[n-1]'hv1).toNat:Int) ==47)=true:=by rw[h1];rfl
         have q1n:(((r[n-1]'hv1).toNat:Int) !=47)=false:=by rw[h1];rfl
         have G1:=Z h1;clear h1;go_wp2_with fail;go_meet;exact⟨rfl,n,rfl,Z ⟨HN.1,HN.2.1,fun us hus=>nH (n:=n) (by omega) (by have:=HRS.out;have:=HN.2.1;omega) HB0.out HQ.out HN.2.2 (by rw[show a+n-2=a+(n-2) from by omega,HZ2.out];exact G2.out) (by rw[show a+n-1=a+(n-1) from by omega,HZ1.out];exact G1.out) hus⟩⟩
        ·have q1:(((r[n-1]'hv1).toNat:Int) ==47)=false:=by simpa using h1
         have q1n:(((r[n-1]'hv1).toNat:Int) !=47)=true:=by simpa using h1
         have G1:=Z h1;clear h1;go_wp2_with (go_at_call 46;refine(bu H 1).mono ?_;rintro e w' ⟨rfl,hw⟩);go_ret;exact GoPost.bad hw (by decide) (by omega)
       ·have q2:(((r[n-2]'hv2).toNat:Int) ==42)=false:=by simpa using h2
        have q2n:(((r[n-2]'hv2).toNat:Int) !=42)=true:=by simpa using h2
        have G2:=Z h2;clear h2;go_wp2_with (go_at_call 46;refine(bu H 1).mono ?_;rintro e w' ⟨rfl,hw⟩);go_ret;exact GoPost.bad hw (by decide) (by omega)
      ·have h4z:(n:Int) <4:=by omega
       go_wp2_with (go_at_call 46;refine(bu H 1).mono ?_;rintro e w' ⟨rfl,hw⟩);go_ret;exact GoPost.bad hw (by decide) (by omega)
  case rest=>
   obtain⟨rfl,n,rfl,HN⟩:=hcut;clear e1 b1;have hns:(n:Int)≤(r.size:Int):=by have:=HN.2.1;omega
   go_wp2_with fail;go_loopw [68] (fun u wr=>∃ (k:Nat) (how':Int),u= .int .i64 k∧Hid (LM w0 lb s a how' ts m wr∧k≤n)) (fun u _=>n-br u)
   case atStart=>exact⟨0,0,rfl,Z ⟨H,Nat.zero_le _⟩⟩
   case round=>
    obtain⟨k,how',rfl,HK⟩:=hrel;by_cases hk:k<n
    ·have hkz:(k:Int) < (n:Int):=by omega
     have hks:(k:Int) < (r.size:Int):=by omega
     have hk0:(0:Int)≤(k:Int):=by omega
     by_cases h1k:1<k
     ·have h1z:(k:Int) >1:=by omega
      have hy1:(0:Int)≤(k:Int) -1:=by omega
      have hx1:(k:Int) -1< (r.size:Int):=by omega
      go_wp2_with (go_at_call 46;refine(bu HK.1 2).mono ?_;rintro e w' ⟨rfl,hw⟩)
      all_goals
       go_roundw
       case rel=>first|exact⟨k+1,_,by simp,Z ⟨hw,hk⟩⟩|exact⟨k+1,_,by simp,Z ⟨HK.1,hk⟩⟩
       case measure=>simp only[br];omega
     ·have h1z:¬ (k:Int) >1:=by omega
      have h1z':¬ (1:Int) < (k:Int):=by omega
      go_wp2_with (go_at_call 46;refine(bu HK.1 2).mono ?_;rintro e w' ⟨rfl,hw⟩)
      all_goals
       go_roundw
       case rel=>first|exact⟨k+1,_,by simp,Z ⟨hw,hk⟩⟩|exact⟨k+1,_,by simp,Z ⟨HK.1,hk⟩⟩
       case measure=>simp only[br];omega
    ·have hkz:¬ (k:Int) < (n:Int):=by omega
     have han:a+n≤s.size:=by have:=HRS.out;have:=HN.2.1;omega
     go_wp2_with (go_at_call 40;refine(uN hs HK.1 bk true han hm).mono ?_;rintro e w' ⟨rfl,hw⟩);go_ret;exact GoPost.skip hw (by have:=HN.1;omega) han HN.2.2
def TokP(w0:World)(lb:Nat)(s:ByteArray)(a:Nat)(ts:List Tk)(m:Nat)(w':World):Prop:=
 ∃ (n:Nat) (how':Int) (t:Tk),0<n∧a+n≤s.size∧LM w0 lb s (a+n) how' (ts++ [t]) (m+1) w'∧(iC t∧t.kind≠6∧t.raw.size≤100000∧t.val.size≤100000)∧(how'=0→∀us,LR (tx s (a+n)) us→LR (tx s a) (rR t::us))
theorem GoPost.tok{w0:World}{lb a m:Nat}{s:ByteArray}{ts:List Tk}{w':World}(h:TokP w0 lb s a ts m w'):GoPost w0 lb s a ts m (.returned (.bool true)) w':=by
 obtain⟨n,how',t,h0,h1,h2,h3,h4⟩:=h;refine⟨true,a+n,m+1,how',ts++ [t],rfl,h2,h1,(fun _=>⟨by omega,rfl,by simp⟩),(fun h=>absurd h (by decide)),?_,?_⟩
 ·intro hh x hx;rcases List.mem_append.1 hx with hx|hx
  ·exact hh x hx
  ·rw[List.mem_singleton] at hx;subst hx;exact h3
 ·intro hz hp us hu;have:=hp (rR t::us) (h4 hz us hu);rw[List.map_append,qs];exact this
def ValPost(hx:Bool)(w:World)(e:Ending)(w':World):Prop:=∃k num how:Int,e= .returned (.tuple #[.int .i64 k,.int .u64 num,.int .i64 how])∧(k=2∨k=3)∧(hx=true→k=2)∧Keep w w'
theorem LMg.cell{w0:World}{lb a m g:Nat}{s:ByteArray}{how:Int}{ts:List Tk}{t:Tk}{w:World}(h:LMg w0 lb s a how (ts++ [t]) m g w)(j:Nat)(u:Value)(hu:t.cells[j]? =some u):
  g<w.heap.size∧w.cell? ⟨g,ts.length*5+j,none⟩=some u∧w.frozen? ⟨g,ts.length*5+j,none⟩=false:=by
 obtain⟨k,l,ln,bg,iv,kc,xs,h1,h2,h3,h4,h5,h6⟩:=h;refine⟨(World.ownsRow.lt h5 g rfl).2,?_,?_⟩
 ·have:=World.ownsRow.cells h5 (g:=g) rfl (ts.length*5+j) u (by
   rw[cP,List.getElem?_append_right (by rw[cI];omega),cI,show ts.length*5+j-ts.length*5=j from by omega];simpa[bv] using hu)
  rwa [cF] at this
 ·rcases h5.2 with⟨h,-⟩|⟨g',cap,cur,h,-,hg,-⟩
  ·cases h
  ·cases h;exact ae hg _
theorem pi{s:ByteArray}{hx:Bool}{a n:Nat}(hn:a+n≤s.size):∀ (d i:Nat),a≤i→a+n-i=d→i≤a+n→0<i→(∀x,i≤x→x<a+n→bR hx (bz s (x-1)) (bz s x)=true)→(a+n<s.size→bR hx (bz s (a+n-1)) (bz s (a+n))=false)→tN hx (bz s (i-1)) (sg s i (a+n)) (tx s (a+n))
 |0,i,_,hd,hi,h0,_,hend=>by
  have e:i=a+n:=by omega
  subst e;have hs:sg s (a+n) (a+n)=[]:=by unfold sg;rw[Nat.sub_self,List.take_zero]
  rw[hs];intro c hc;obtain⟨h1,rfl⟩:=fU hc;exact hend h1
 |d+1,i,ha,hd,hi,h0,hall,hend=>by
  have hlt:i<a+n:=by omega
  have hs:sg s i (a+n)=bz s i::sg s (i+1) (a+n):=by
   unfold sg;rw[aL (by omega),show a+n-i=(a+n- (i+1))+1 from by omega,List.take_succ_cons]
  rw[hs];refine⟨hall i qr hlt,?_⟩;have:=pi hn d (i+1) (by omega) (by omega) (by omega) (by omega) (fun x h1 h2=>hall x (by omega) h2) hend
  rwa [Nat.add_sub_cancel] at this
theorem wS{s:ByteArray}{hx:Bool}{a n:Nat}(h0:0<n)(hn:a+n≤s.size)(hc:aV (bz s a)=true∨(bz s a=46∧a+1<s.size∧aV (bz s (a+1))=true))(hall:∀x,0<x→x<n→bR hx (bz s (a+x-1)) (bz s (a+x))=true)(hend:a+n<s.size→bR hx (bz s (a+n-1)) (bz s (a+n))=false)
  {t:Tk} (hk:t.kind=2∨t.kind=3) (hk2:hx=true→t.kind=2) {us:List Pt} (h:LR (tx s (a+n)) us):LR (tx s a) (rR t::us):=by
 have h1:tN hx (bz s a) (sg s (a+1) (a+n)) (tx s (a+n)):=pi hn (a+n- (a+1)) (a+1) (by omega) rfl (by omega) (by omega) (fun x g1 g2=>by
  have:=hall (x-a) (by omega) (by omega)
  rwa [show a+(x-a)=x from by omega] at this) hend
 rw[aL (by omega),o6 (show a+1≤a+n by omega)];refine LR.num hx ?_ h1 hk2 hk h;rcases hc with hc|⟨hc,h2,hd⟩
 ·exact .inl hc
 ·refine .inr ⟨hc,bz s (a+1),sg s (a+1+1) (a+n),?_,hd⟩;rcases Nat.lt_or_ge 1 n with h3|h3
  ·unfold sg;rw[aL (i:=a+1) h2,show a+n- (a+1)=(a+n- (a+1+1))+1 from by omega,List.take_succ_cons]
  ·exfalso;have e:n=1:=by omega
   subst e;have:=hend h2;simp[bR,hd] at this
theorem eP{hx:Bool}{p c:Int}(hl:bB c=false)(hd:aV c=false)(h46:c≠46)(h:¬ (c=43∨c=45)∨hx=true∨¬ (p=101∨p=69)):bR hx p c=false:=by
 have e46:(c==46)=false:=by simpa using h46
 unfold bR;rw[hl,hd,e46];rcases h with h|h|h
 ·have e1:(c==43)=false:=by simp;omega
  have e2:(c==45)=false:=by simp;omega
  simp[e1,e2]
 ·simp[h]
 ·have e1:(p==101)=false:=by simp;omega
  have e2:(p==69)=false:=by simp;omega
  simp[e1,e2]
theorem je(w0:World)(lb:Nat)(s r:ByteArray)(hs:s.size≤100000)(a m:Nat)(ts:List Tk)(bk:ByteArray)(w:World)(h:LM w0 lb s a 0 ts m w)(hr:Rest s a r)(h1:a<s.size)(b0:aV (bz s a)=true∨(bz s a=46∧a+1<s.size∧aV (bz s (a+1))=true))(hm:m≤500000)(htl:ts.length≤500000)
  (hv:∀ (v:ByteArray) (hx:Bool) (w':World),Keep w0 w'→v.size≤100000→0<v.size→(hx=true→2≤v.size)→Calls prog 77 #[.string v,.bool hx] w' (ValPost hx w')):
  Calls prog 44 #[.pointer (some ⟨lb,0,none⟩),.string bk,.string r] w fun e w'=>e= .returned (.tuple #[])∧TokP w0 lb s a ts m w':=by
 have H:=Z h;have hrs:=hr.size;have HR:=Z hr;have HV:=Z hv;have HB0:=Z b0;have hr0:0<r.size:=by omega
 have hrz0:(0:Int) < (r.size:Int):=by omega
 have hr2:r.size≤100000:=by omega
 have HRS:=Z hrs;clear h hr hrs b0 hv;go_enter func44,ntmps44;go_upto_region 1 with fail;go_cut [7] (fun s7 wx=>wx=w∧∃hx:Bool,s7= .bool hx∧Hid (hx=true→1<r.size∧bB (bz s (a+1))=true))
 case first=>
  by_cases h1r:1<r.size
  ·have hrz:(r.size:Int) >1:=by omega
   have HB1:=Z (aq h1r);have HBS:=Z (HR.bz 1);by_cases q120:((r[1]'h1r).toNat:Int)=120
   ·have q:(((r[1]'h1r).toNat:Int) ==120)=true:=by rw[q120];rfl
    have HQ:=Z q120;clear q120;go_wp2_with fail
    all_goals
     go_meet;refine⟨rfl,_,rfl,Z fun _=>⟨h1r,?_⟩⟩;rw[←HBS.out,HB1.out,HQ.out];decide
   ·have q:(((r[1]'h1r).toNat:Int) ==120)=false:=by simpa using q120
    clear q120;by_cases q88:((r[1]'h1r).toNat:Int)=88
    ·have q':(((r[1]'h1r).toNat:Int) ==88)=true:=by rw[q88];rfl
     have HQ:=Z q88;clear q88;go_wp2_with fail
     all_goals
      go_meet;refine⟨rfl,_,rfl,Z fun _=>⟨h1r,?_⟩⟩;rw[←HBS.out,HB1.out,HQ.out];decide
    ·have q':(((r[1]'h1r).toNat:Int) ==88)=false:=by simpa using q88
     clear q88;go_wp2_with fail
     all_goals
      go_meet;exact⟨rfl,false,rfl,Z fun h=>by cases h⟩
  ·have hrz:¬ (r.size:Int) >1:=by omega
   have hrz':¬ (1:Int) < (r.size:Int):=by omega
   go_wp2_with fail;go_meet;exact⟨rfl,false,rfl,Z fun h=>by cases h⟩
 case rest=>
  obtain⟨rfl,hx,rfl,HX⟩:=hcut;go_step;go_step;go_cut [6] (fun s6 wx=>wx=wc∧∃n:Nat,s6= .int .i64 n∧Hid (n≤r.size∧0<n∧(∀x,0<x→x<n→bR hx (bz s (a+x-1)) (bz s (a+x))=true)∧(a+n<s.size→bR hx (bz s (a+n-1)) (bz s (a+n))=false)))
  case first=>
   go_wp2_with fail;go_loopw [6] (fun s6 wr=>wr=wc∧∃n:Nat,s6= .int .i64 n∧Hid (n≤r.size∧∀x,0<x→x<n→bR hx (bz s (a+x-1)) (bz s (a+x))=true)) (fun s6 _=>r.size-br s6)
   case atStart=>exact⟨rfl,0,rfl,Z ⟨Nat.zero_le _,fun x g1 g2=>by omega⟩⟩
   case round=>
    obtain⟨rfl,n,rfl,HN⟩:=hrel;by_cases hm:n<r.size
    ·have hmz:(n:Int) < (r.size:Int):=by omega
     have HBZ:=Z ((HR.bz n).symm.trans (aq hm));have hb0:(0:Int)≤((r[n]'hm).toNat:Int):=by omega
     cases hl:bB ((r[n]'hm).toNat:Int)
     ·have HL:=Z hl;clear hl;cases hd:aV ((r[n]'hm).toNat:Int)
      ·have HD:=Z hd;clear hd;by_cases e46:((r[n]'hm).toNat:Int)=46
       ·have H46:=Z e46;have q46:(((r[n]'hm).toNat:Int) ==46)=true:=by first|(simp;omega)|(rw[H46.out];rfl)
        have p46:(((r[n]'hm).toNat:Int) !=46)=false:=by first|(simp;omega)|(rw[H46.out];rfl)
        have q43:(((r[n]'hm).toNat:Int) ==43)=false:=by first|(simp;omega)|(rw[H43.out];rfl)
        have p43:(((r[n]'hm).toNat:Int) !=43)=true:=by first|(simp;omega)|(rw[H43.out];rfl)
        have q45:(((r[n]'hm).toNat:Int) ==45)=false:=by first|(simp;omega)|(rw[H45.out];rfl)
        have p45:(((r[n]'hm).toNat:Int) !=45)=true:=by first|(simp;omega)|(rw[H45.out];rfl)
        clear e46;go_wp2_with (first|(go_at_call 42;refine(ah _ _).mono ?_;rintro e w' ⟨rfl,rfl⟩;rw[HL.out])|(go_at_call 43;refine(ai _ _).mono ?_;rintro e w' ⟨rfl,rfl⟩;rw[HD.out]));go_roundw
        case rel=>exact⟨by trivial,n+1,by simp,Z ⟨hm,fun x g1 g2=>by
         rcases Nat.lt_or_ge x n with h|h
         ·exact HN.2 x g1 h
         ·have hxn:x=n:=by omega
          subst hxn;rw[show bz s (a+x)=((r[x]'hm).toNat:Int) from HBZ.out];exact by simp[bR,H46.out]⟩⟩
        case measure=>simp only[br];omega
       ·have hne46:=e46;have q46:(((r[n]'hm).toNat:Int) ==46)=false:=by simpa using e46
        have p46:(((r[n]'hm).toNat:Int) !=46)=true:=by simpa using e46
        have h0:0<n:=by
         rcases Nat.eq_zero_or_pos n with e|e
         ·exfalso;subst e;have hb:bz s a=((r[0]'hm).toNat:Int):=HBZ.out;rcases HB0.out with g|⟨g,-⟩
          ·rw[hb,HD.out] at g;cases g
          ·rw[hb] at g;exact hne46 g
         ·exact e
        clear hne46 e46;have hnz:(n:Int) >0:=by omega
        have hy1:(0:Int)≤(n:Int) -1:=by omega
        have hx1:(n:Int) -1< (r.size:Int):=by omega
        have hz1:((n:Int) -1).toNat=n-1:=by omega
        have hv1:n-1<r.size:=by omega
        have HZ1:=Z ((HR.bz (n-1)).symm.trans (aq hv1));have HA1:Hid (a+n-1=a+(n-1)):=Z (by omega);by_cases hsg:((r[n]'hm).toNat:Int)=43∨((r[n]'hm).toNat:Int)=45
        ·have HS:=Z hsg;cases hx
         ·by_cases hee:((r[n-1]'hv1).toNat:Int)=101∨((r[n-1]'hv1).toNat:Int)=69
          ·have HE:=Z hee;rcases hee with hee|hee
           ·have q101:(((r[n-1]'hv1).toNat:Int) ==101)=true:=by rw[hee];rfl
            clear hee;rcases hsg with hsg|hsg
            ·have H43:=Z hsg;have q43:(((r[n]'hm).toNat:Int) ==43)=true:=by first|(simp;omega)|(rw[H43.out];rfl)
             have p43:(((r[n]'hm).toNat:Int) !=43)=false:=by first|(simp;omega)|(rw[H43.out];rfl)
             clear hsg;go_wp2_with (first|(go_at_call 42;refine(ah _ _).mono ?_;rintro e w' ⟨rfl,rfl⟩;rw[HL.out])|(go_at_call 43;refine(ai _ _).mono ?_;rintro e w' ⟨rfl,rfl⟩;rw[HD.out]));go_roundw
             case rel=>exact⟨by trivial,n+1,by simp,Z ⟨hm,fun x g1 g2=>by
              rcases Nat.lt_or_ge x n with h|h
              ·exact HN.2 x g1 h
              ·have hxn:x=n:=by omega
               subst hxn;rw[show bz s (a+x)=((r[x]'hm).toNat:Int) from HBZ.out];exact by rw[HA1.out,HZ1.out];rcases HS.out with g|g<;>rcases HE.out with g'|g'<;>simp[bR,g,g']⟩⟩
             case measure=>simp only[br];omega
            ·have H45:=Z hsg;have q45:(((r[n]'hm).toNat:Int) ==45)=true:=by first|(simp;omega)|(rw[H45.out];rfl)
             have p45:(((r[n]'hm).toNat:Int) !=45)=false:=by first|(simp;omega)|(rw[H45.out];rfl)
             have q43:(((r[n]'hm).toNat:Int) ==43)=false:=by rw[hsg];rfl
             clear hsg;go_wp2_with (first|(go_at_call 42;refine(ah _ _).mono ?_;rintro e w' ⟨rfl,rfl⟩;rw[HL.out])|(go_at_call 43;refine(ai _ _).mono ?_;rintro e w' ⟨rfl,rfl⟩;rw[HD.out]));go_roundw
             case rel=>exact⟨by trivial,n+1,by simp,Z ⟨hm,fun x g1 g2=>by
              rcases Nat.lt_or_ge x n with h|h
              ·exact HN.2 x g1 h
              ·have hxn:x=n:=by omega
               subst hxn;rw[show bz s (a+x)=((r[x]'hm).toNat:Int) from HBZ.out];exact by rw[HA1.out,HZ1.out];rcases HS.out with g|g<;>rcases HE.out with g'|g'<;>simp[bR,g,g']⟩⟩
             case measure=>simp only[br];omega
           ·have q101:(((r[n-1]'hv1).toNat:Int) ==101)=false:=by rw[hee];rfl
            have q69:(((r[n-1]'hv1).toNat:Int) ==69)=true:=by rw[hee];rfl
            clear hee;rcases hsg with hsg|hsg
            ·have H43:=Z hsg;have q43:(((r[n]'hm).toNat:Int) ==43)=true:=by first|(simp;omega)|(rw[H43.out];rfl)
             have p43:(((r[n]'hm).toNat:Int) !=43)=false:=by first|(simp;omega)|(rw[H43.out];rfl)
             clear hsg;go_wp2_with (first|(go_at_call 42;refine(ah _ _).mono ?_;rintro e w' ⟨rfl,rfl⟩;rw[HL.out])|(go_at_call 43;refine(ai _ _).mono ?_;rintro e w' ⟨rfl,rfl⟩;rw[HD.out]));go_roundw
             case rel=>exact⟨by trivial,n+1,by simp,Z ⟨hm,fun x g1 g2=>by
              rcases Nat.lt_or_ge x n with h|h
              ·exact HN.2 x g1 h
              ·have hxn:x=n:=by omega
               subst hxn;rw[show bz s (a+x)=((r[x]'hm).toNat:Int) from HBZ.out];exact by rw[HA1.out,HZ1.out];rcases HS.out with g|g<;>rcases HE.out with g'|g'<;>simp[bR,g,g']⟩⟩
             case measure=>simp only[br];omega
            ·have H45:=Z hsg;have q45:(((r[n]'hm).toNat:Int) ==45)=true:=by first|(simp;omega)|(rw[H45.out];rfl)
             have p45:(((r[n]'hm).toNat:Int) !=45)=false:=by first|(simp;omega)|(rw[H45.out];rfl)
             have q43:(((r[n]'hm).toNat:Int) ==43)=false:=by rw[hsg];rfl
             clear hsg;go_wp2_with (first|(go_at_call 42;refine(ah _ _).mono ?_;rintro e w' ⟨rfl,rfl⟩;rw[HL.out])|(go_at_call 43;refine(ai _ _).mono ?_;rintro e w' ⟨rfl,rfl⟩;rw[HD.out]));go_roundw
             case rel=>exact⟨by trivial,n+1,by simp,Z ⟨hm,fun x g1 g2=>by
              rcases Nat.lt_or_ge x n with h|h
              ·exact HN.2 x g1 h
              ·have hxn:x=n:=by omega
               subst hxn;rw[show bz s (a+x)=((r[x]'hm).toNat:Int) from HBZ.out];exact by rw[HA1.out,HZ1.out];rcases HS.out with g|g<;>rcases HE.out with g'|g'<;>simp[bR,g,g']⟩⟩
             case measure=>simp only[br];omega
          ·have HE:=Z hee;have q101:(((r[n-1]'hv1).toNat:Int) ==101)=false:=by simp;omega
           have q69:(((r[n-1]'hv1).toNat:Int) ==69)=false:=by simp;omega
           clear hee;rcases hsg with hsg|hsg
           ·have H43:=Z hsg;have q43:(((r[n]'hm).toNat:Int) ==43)=true:=by first|(simp;omega)|(rw[H43.out];rfl)
            have p43:(((r[n]'hm).toNat:Int) !=43)=false:=by first|(simp;omega)|(rw[H43.out];rfl)
            clear hsg;go_wp2_with (first|(go_at_call 42;refine(ah _ _).mono ?_;rintro e w' ⟨rfl,rfl⟩;rw[HL.out])|(go_at_call 43;refine(ai _ _).mono ?_;rintro e w' ⟨rfl,rfl⟩;rw[HD.out]));go_meet;exact⟨rfl,n,rfl,Z ⟨HN.1,h0,HN.2,fun _=>by
             rw[show bz s (a+n)=((r[n]'hm).toNat:Int) from HBZ.out];exact eP HL.out HD.out (by have:=HS.out;omega) (.inr (.inr (by rw[HA1.out,HZ1.out];exact HE.out)))⟩⟩
           ·have H45:=Z hsg;have q45:(((r[n]'hm).toNat:Int) ==45)=true:=by first|(simp;omega)|(rw[H45.out];rfl)
            have p45:(((r[n]'hm).toNat:Int) !=45)=false:=by first|(simp;omega)|(rw[H45.out];rfl)
            have q43:(((r[n]'hm).toNat:Int) ==43)=false:=by rw[hsg];rfl
            clear hsg;go_wp2_with (first|(go_at_call 42;refine(ah _ _).mono ?_;rintro e w' ⟨rfl,rfl⟩;rw[HL.out])|(go_at_call 43;refine(ai _ _).mono ?_;rintro e w' ⟨rfl,rfl⟩;rw[HD.out]));go_meet;exact⟨rfl,n,rfl,Z ⟨HN.1,h0,HN.2,fun _=>by
             rw[show bz s (a+n)=((r[n]'hm).toNat:Int) from HBZ.out];exact eP HL.out HD.out (by have:=HS.out;omega) (.inr (.inr (by rw[HA1.out,HZ1.out];exact HE.out)))⟩⟩
         ·rcases hsg with hsg|hsg
          ·have H43:=Z hsg;have q43:(((r[n]'hm).toNat:Int) ==43)=true:=by first|(simp;omega)|(rw[H43.out];rfl)
           have p43:(((r[n]'hm).toNat:Int) !=43)=false:=by first|(simp;omega)|(rw[H43.out];rfl)
           clear hsg;go_wp2_with (first|(go_at_call 42;refine(ah _ _).mono ?_;rintro e w' ⟨rfl,rfl⟩;rw[HL.out])|(go_at_call 43;refine(ai _ _).mono ?_;rintro e w' ⟨rfl,rfl⟩;rw[HD.out]));go_meet;exact⟨rfl,n,rfl,Z ⟨HN.1,h0,HN.2,fun _=>by
            rw[show bz s (a+n)=((r[n]'hm).toNat:Int) from HBZ.out];exact eP HL.out HD.out (by have:=HS.out;omega) (.inr (.inl rfl))⟩⟩
          ·have H45:=Z hsg;have q45:(((r[n]'hm).toNat:Int) ==45)=true:=by first|(simp;omega)|(rw[H45.out];rfl)
           have p45:(((r[n]'hm).toNat:Int) !=45)=false:=by first|(simp;omega)|(rw[H45.out];rfl)
           have q43:(((r[n]'hm).toNat:Int) ==43)=false:=by rw[hsg];rfl
           clear hsg;go_wp2_with (first|(go_at_call 42;refine(ah _ _).mono ?_;rintro e w' ⟨rfl,rfl⟩;rw[HL.out])|(go_at_call 43;refine(ai _ _).mono ?_;rintro e w' ⟨rfl,rfl⟩;rw[HD.out]));go_meet;exact⟨rfl,n,rfl,Z ⟨HN.1,h0,HN.2,fun _=>by
            rw[show bz s (a+n)=((r[n]'hm).toNat:Int) from HBZ.out];exact eP HL.out HD.out (by have:=HS.out;omega) (.inr (.inl rfl))⟩⟩
        ·have HS:=Z hsg;have HN46:Hid (((r[n]'hm).toNat:Int)≠46):=Z (by simpa using q46);have q43:(((r[n]'hm).toNat:Int) ==43)=false:=by simp;omega
         have q45:(((r[n]'hm).toNat:Int) ==45)=false:=by simp;omega
         clear hsg;go_wp2_with (first|(go_at_call 42;refine(ah _ _).mono ?_;rintro e w' ⟨rfl,rfl⟩;rw[HL.out])|(go_at_call 43;refine(ai _ _).mono ?_;rintro e w' ⟨rfl,rfl⟩;rw[HD.out]));go_meet;exact⟨rfl,n,rfl,Z ⟨HN.1,h0,HN.2,fun _=>by
          rw[show bz s (a+n)=((r[n]'hm).toNat:Int) from HBZ.out];exact eP HL.out HD.out HN46.out (.inl HS.out)⟩⟩
      ·have HD:=Z hd;have hr1:=cR hd;have q46:(((r[n]'hm).toNat:Int) ==46)=false:=by first|(simp;omega)|(rw[H46.out];rfl)
       have p46:(((r[n]'hm).toNat:Int) !=46)=true:=by first|(simp;omega)|(rw[H46.out];rfl)
       have q43:(((r[n]'hm).toNat:Int) ==43)=false:=by first|(simp;omega)|(rw[H43.out];rfl)
       have p43:(((r[n]'hm).toNat:Int) !=43)=true:=by first|(simp;omega)|(rw[H43.out];rfl)
       have q45:(((r[n]'hm).toNat:Int) ==45)=false:=by first|(simp;omega)|(rw[H45.out];rfl)
       have p45:(((r[n]'hm).toNat:Int) !=45)=true:=by first|(simp;omega)|(rw[H45.out];rfl)
       clear hd hr1;go_wp2_with (first|(go_at_call 42;refine(ah _ _).mono ?_;rintro e w' ⟨rfl,rfl⟩;rw[HL.out])|(go_at_call 43;refine(ai _ _).mono ?_;rintro e w' ⟨rfl,rfl⟩;rw[HD.out]));go_roundw
       case rel=>exact⟨by trivial,n+1,by simp,Z ⟨hm,fun x g1 g2=>by
        rcases Nat.lt_or_ge x n with h|h
        ·exact HN.2 x g1 h
        ·have hxn:x=n:=by omega
         subst hxn;rw[show bz s (a+x)=((r[x]'hm).toNat:Int) from HBZ.out];exact by simp[bR,HD.out]⟩⟩
       case measure=>simp only[br];omega
     ·have HL:=Z hl;have hr1:=et hl;have q46:(((r[n]'hm).toNat:Int) ==46)=false:=by first|(simp;omega)|(rw[H46.out];rfl)
      have p46:(((r[n]'hm).toNat:Int) !=46)=true:=by first|(simp;omega)|(rw[H46.out];rfl)
      have q43:(((r[n]'hm).toNat:Int) ==43)=false:=by first|(simp;omega)|(rw[H43.out];rfl)
      have p43:(((r[n]'hm).toNat:Int) !=43)=true:=by first|(simp;omega)|(rw[H43.out];rfl)
      have q45:(((r[n]'hm).toNat:Int) ==45)=false:=by first|(simp;omega)|(rw[H45.out];rfl)
      have p45:(((r[n]'hm).toNat:Int) !=45)=true:=by first|(simp;omega)|(rw[H45.out];rfl)
      clear hl hr1;go_wp2_with (go_at_call 42;refine(ah _ _).mono ?_;rintro e w' ⟨rfl,rfl⟩;rw[HL.out]);go_roundw
      case rel=>exact⟨by trivial,n+1,by simp,Z ⟨hm,fun x g1 g2=>by
       rcases Nat.lt_or_ge x n with h|h
       ·exact HN.2 x g1 h
       ·have hxn:x=n:=by omega
        subst hxn;rw[show bz s (a+x)=((r[x]'hm).toNat:Int) from HBZ.out];exact by simp[bR,HL.out]⟩⟩
      case measure=>simp only[br];omega
    ·have hmz:¬ (n:Int) < (r.size:Int):=by omega
     have hne:n=r.size:=by have:=HN.1;omega
     have HNE:=Z hne;clear hne;go_wp2_with fail;go_meet;exact⟨rfl,n,rfl,Z ⟨HN.1,by have:=HNE.out;omega,HN.2,fun h=>by have:=HNE.out;have:=HRS.out;omega⟩⟩
  case rest=>
   obtain⟨rfl,n,rfl,HN⟩:=hcut;have hns:(n:Int)≤(r.size:Int):=by have:=HN.1;omega
   have hn0:(0:Int)≤(n:Int):=by omega
   have hvs:(r.extract 0 n).size=n:=by rw[qo];have:=HN.1;omega
   have HVS:=Z hvs;have han:a+n≤s.size:=by have:=HRS.out;have:=HN.1;omega
   clear hvs;have hx2:hx=true→2≤n:=fun e=>by
    rcases Nat.lt_or_ge n 2 with g|g
    ·exfalso;have e1:n=1:=by have:=HN.2.1;omega
     have h2:=HX.out e;have:=HN.2.2.2 (by have:=HRS.out;omega);rw[e1] at this;simp[bR,h2.2] at this
    ·exact g
   have HX2:=Z hx2;clear hx2;go_wp2_with (go_at_call 77;refine(HV.out (r.extract 0 n) hx wc H.keep (by rw[HVS.out];have:=HN.1;omega) (by rw[HVS.out];exact HN.2.1) (fun e=>by rw[HVS.out];exact HX2.out e)).mono ?_;rintro e w2 ⟨k,num,how,rfl,hk,hk2,kk⟩);have HK:=Z hk;have HK2:=Z hk2;have HKK:=Z kk;clear hk hk2 kk;go_wp2_with (go_at_call 46;refine(bu (H.kp HKK.out) how).mono ?_;rintro e w3 ⟨rfl,hw⟩);have HW:=Z (show LM w0 lb s a how ts m w3 from by simpa using hw);clear hw;go_wp2_with (go_at_call 20;refine(aK w0 lb s hs a n m how ts k bk w3 HW.out han hm htl).mono ?_;rintro e w4 ⟨g,rfl,hg⟩;obtain⟨z1,z2,z3⟩:=hg.cell 3 (.int .u64 0) rfl);have HG:=Z hg;clear hg;refine bodyPost_end (results_none rfl _ _ _) rfl ?_;refine⟨rfl,n,how,⟨k,s.extract a (a+n),⟨#[]⟩,num,m⟩,HN.2.1,han,HG.set 3 (by decide) _ rfl,⟨⟨fun e=>?_,fun e=>?_⟩,?_,?_,Nat.zero_le _⟩,fun _ us hus=>wS HN.2.1 han HB0.out HN.2.2.1 HN.2.2.2 HK.out HK2.out hus⟩
   ·have:=HK.out;simp only at e;omega
   ·have:=HK.out;simp only at e;omega
   ·have:=HK.out;simp only;omega
   ·simp only;rw[qo];omega
def fF(s:ByteArray)(w:World)(e:Ending)(w':World):Prop:=
 ∃ (v:ByteArray) (k:Nat) (how:Int),e= .returned (.tuple #[.string v,.int .i64 k,.int .i64 how])∧k≤s.size∧v.size≤8∧(how=0→v.size≤k∧gR (tx s 0)=some (v.toList,k))∧Keep w w'
theorem fQ{how x:Int}(hx:x≠0):(if how=0 then x else how)≠0:=by split<;>assumption
theorem nL(a b:ByteArray):(a++b).toList=a.toList++b.toList:=by
 rw[qi,qi,qi];simp
theorem lZ{r:ByteArray}{n:Nat}(h:n<r.size):(r.extract n (n+1)).toList=[b8 (bz r n)]:=by
 rw[qi,ByteArray.data_extract,Array.toList_extract,List.extract_eq_take_drop,show n+1-n=1 from by omega];have hl:n<r.data.toList.length:=h;rw[List.drop_eq_getElem_cons hl,aq h];simp only[List.take_succ_cons,List.take_zero,List.cons.injEq,and_true];unfold b8;simp;rfl
theorem wD{s r:ByteArray}{a n:Nat}(hr:Rest s a r)(hn:1≤n)(hnr:n<r.size)(hq:bz s a=34∨bz s a=39)(hc:bz r n=bz r 0){v:ByteArray}(hv:∀u r',StrS (bz r 0) (tx r n) u r'→StrS (bz r 0) (tx r 1) (v.toList++u) r')
  {t:Tk} (hk:t.kind=4) (htv:t.val=v) {us:List Pt} (h:LR (tx s (a+(n+1))) us):LR (tx s a) (rR t::us):=by
 have hrs:=hr.size;have h0:bz r 0=bz s a:=hr.bz 0;have h1:=hv [] (tx r (n+1)) (by rw[aL hnr,hc];exact StrS.done);rw[List.append_nil,hr.tx,hr.tx] at h1;rw[aL (by omega)];refine LR.str hq ?_ hk (by show t.val.toList=_;rw[htv]) h;rw[←h0];exact h1
theorem ud{r:ByteArray}{n:Nat}{q:Int}{val:ByteArray}(hn:n<r.size)(hq:bz r n≠q)(h92:bz r n≠92)(h128:bz r n<128)(h:∀u r',StrS q (tx r n) u r'→StrS q (tx r 1) (val.toList++u) r'):∀u r',StrS q (tx r (n+1)) u r'→StrS q (tx r 1) ((val++r.extract n (n+1)).toList++u) r':=by
 intro u r' hu;rw[nL,lZ hn,qs];refine h _ _ ?_;rw[aL hn];exact StrS.chr hq h92 (by unfold bz;omega) h128 hu
theorem uc{r x:ByteArray}{n k:Nat}{q:Int}{val v:ByteArray}(hn:n<r.size)(h92:bz r n=92)(hx:Rest r (n+1) x)(he:gR (tx x 0)=some (v.toList,k))(h:∀u r',StrS q (tx r n) u r'→StrS q (tx r 1) (val.toList++u) r'):∀u r',StrS q (tx r (n+1+k)) u r'→StrS q (tx r 1) ((val++v).toList++u) r':=by
 intro u r' hu;rw[nL,qs];refine h _ _ ?_;rw[aL hn,h92];rw[hx.tx] at he;refine StrS.esc he ?_;rw[kZ];exact hu
theorem jJ(a b:ByteArray):(a++b).size=a.size+b.size:=ByteArray.size_append
theorem mt(w0:World)(lb:Nat)(s r:ByteArray)(hs:s.size≤100000)(a m:Nat)(ts:List Tk)(bk:ByteArray)(w:World)(h:LM w0 lb s a 0 ts m w)(hr:Rest s a r)(h1:a<s.size)(b0:bz s a=34∨bz s a=39)(hasc:∀i,bz s i<128)(hm:m≤500000)(htl:ts.length≤500000)
  (hv:∀ (v:ByteArray) (w':World),Keep w0 w'→v.size≤100000→Calls prog 78 #[.string v] w' (fF v w')):
  Calls prog 45 #[.pointer (some ⟨lb,0,none⟩),.string bk,.string r] w (GoPost w0 lb s a ts m):=by
 have H:=Z h;have hrs:=hr.size;have HR:=Z hr;have HV:=Z hv;have HB0:=Z b0;have HA:=Z hasc;have hr0:0<r.size:=by omega
 have hrz0:(0:Int) < (r.size:Int):=by omega
 have hr2:r.size≤100000:=by omega
 have HRS:=Z hrs;have HQ0:=Z (aq hr0);clear h hr hrs b0 hv hasc;go_enter func45,ntmps45;go_wp2_with fail;go_loopw [7,8] (fun s7 s8 wr=>∃ (n:Nat) (val:ByteArray) (how':Int),s7= .int .i64 n∧s8= .string val∧Hid (1≤n∧n≤r.size∧val.size≤n∧LM w0 lb s a how' ts m wr∧(how'=0→∀u r',StrS (bz r 0) (tx r n) u r'→StrS (bz r 0) (tx r 1) (val.toList++u) r'))) (fun s7 _ _=>r.size-br s7)
 case atStart=>exact⟨1,⟨#[]⟩,0,rfl,rfl,Z ⟨Nat.le_refl _,hr0,Nat.zero_le _,H.out,fun _ u r' h=>by simpa[qp] using h⟩⟩
 case round=>
  obtain⟨n,val,how',rfl,rfl,HN⟩:=hrel;have hvs:val.size≤100000:=by have:=HN.1;have:=HN.2.1;have:=HN.2.2.1;omega
  by_cases hm':n<r.size
  ·have hge:¬ (n:Int)≥(r.size:Int):=by omega
   have hmz:(n:Int) < (r.size:Int):=by omega
   have hn0:(0:Int)≤(n:Int):=by omega
   have hnr:(n:Int)+1≤(r.size:Int):=by omega
   have HBZ:=Z (aq hm');by_cases h10:((r[n]'hm').toNat:Int)=10
   ·have q10:(((r[n]'hm').toNat:Int) ==10)=true:=by rw[h10];rfl
    clear h10;go_wp2_with (go_at_call 46;refine(bu HN.2.2.2.1 1).mono ?_;rintro e w' ⟨rfl,hw⟩);go_ret;exact GoPost.bad hw (fQ (by decide)) (by omega)
   have q10:(((r[n]'hm').toNat:Int) ==10)=false:=by simpa using h10
   clear h10;by_cases hz:((r[n]'hm').toNat:Int)=0
   ·have q0:(((r[n]'hm').toNat:Int) ==0)=true:=by rw[hz];rfl
    clear hz;go_wp2_with (go_at_call 46;refine(bu HN.2.2.2.1 1).mono ?_;rintro e w' ⟨rfl,hw⟩);go_ret;exact GoPost.bad hw (fQ (by decide)) (by omega)
   have q0:(((r[n]'hm').toNat:Int) ==0)=false:=by simpa using hz
   clear hz;by_cases hq:((r[n]'hm').toNat:Int)=((r[0]'hr0).toNat:Int)
   ·have qq:(((r[n]'hm').toNat:Int) == ((r[0]'hr0).toNat:Int))=true:=by simpa using hq
    have HQ:=Z hq;clear hq;have han:a+(n+1)≤s.size:=by have:=HRS.out;omega
    go_wp2_with (go_at_call 20;refine(aK w0 lb s hs a (n+1) m how' ts 4 bk _ HN.2.2.2.1 han hm htl).mono ?_;rintro e w4 ⟨g,rfl,hg⟩;obtain⟨z1,z2,z3⟩:=hg.cell 2 (.string ⟨#[]⟩) rfl);go_ret;refine GoPost.tok ⟨n+1,how',⟨4,s.extract a (a+(n+1)),val,0,m⟩,by omega,han,hg.set 2 (by decide) _ rfl,⟨⟨fun e=>absurd (show(4:Int)=1 from e) (by decide),fun e=>absurd (show(4:Int)=5 from e) (by decide)⟩,(show(4:Int)≠6 by decide),?_,hvs⟩,fun hz us hus=>wD HR.out HN.1 hm' HB0.out (by rw[HBZ.out,HQ0.out];exact HQ.out) (HN.2.2.2.2 hz) rfl rfl hus⟩;simp only;rw[qo];omega
   have qq:(((r[n]'hm').toNat:Int) == ((r[0]'hr0).toNat:Int))=false:=by simpa using hq
   have HQ:=Z hq;clear hq;by_cases h92:((r[n]'hm').toNat:Int)=92
   ·have q92:(((r[n]'hm').toNat:Int) !=92)=false:=by rw[h92];rfl
    have H92:=Z h92;clear h92;have HES:=Z (Rest.ext r (n+1) (by omega));have hes:(r.extract (n+1) r.size).size=r.size- (n+1):=HES.size;have HESZ:=Z hes;clear hes;have hnz:((n:Int)+1).toNat=n+1:=by omega
    go_wp2_with (go_at_call 78;refine(HV.out (r.extract (n+1) r.size) wr HN.2.2.2.1.keep (by rw[HESZ.out];omega)).mono ?_;rintro e w2 ⟨v,k,how,rfl,hkl,hv8,hesc,kk⟩;rw[HESZ.out] at hkl;have hkz:(k:Int)≤100000:=(by omega);have hk0:(0:Int)≤(k:Int):=(by omega);have KK:=Z kk;have HESC:=Z hesc;clear kk hesc;refine Hid.out ?_);refine Z ?_;by_cases hh:how=0
    ·have qh:(how !=0)=false:=by rw[hh];rfl
     have HH:=Z hh;clear hh;go_wp2_with fail;go_roundw
     case rel=>exact⟨n+1+k,val++v,how',by simp,rfl,Z ⟨by omega,by omega,by rw[jJ];have:=HN.2.2.1;have:=(HESC.out HH.out).1;omega,HN.2.2.2.1.kp KK.out,fun e=>uc hm' (by rw[HBZ.out];exact H92.out) HES.out (HESC.out HH.out).2 (HN.2.2.2.2 e)⟩⟩
     case measure=>simp only[br];omega
    ·have qh:(how !=0)=true:=by simpa using hh
     have HH:=Z hh;clear hh;go_wp2_with (go_at_call 46;refine(bu (HN.2.2.2.1.kp KK) how).mono ?_;rintro e w' ⟨rfl,hw⟩);go_ret;exact GoPost.bad hw (fQ HH) (by omega)
   ·have q92:(((r[n]'hm').toNat:Int) !=92)=true:=by simpa using h92
    have H92:=Z h92;clear h92;have h128:((r[n]'hm').toNat:Int) <128:=by rw[←HBZ.out,HR.bz];exact HA.out _
    have h128':¬ ((r[n]'hm').toNat:Int)≥128:=by omega
    have hnz:((n:Int)+1).toNat=n+1:=by omega
    go_wp2_with (go_at_call 46;refine(bu HN.2.2.2.1 2).mono ?_;rintro e w' ⟨rfl,hw⟩)
    all_goals
     go_roundw
     case rel=>first
      |exact⟨n+1,val++r.extract n (n+1),_,by simp,rfl,Z ⟨by omega,hm',by rw[jJ,qo];have:=HN.2.2.1;omega,hw,fun e=>absurd e (fQ (by decide))⟩⟩
      |exact⟨n+1,val++r.extract n (n+1),how',by simp,rfl,Z ⟨by omega,hm',by rw[jJ,qo];have:=HN.2.2.1;omega,HN.2.2.2.1,fun e=>ud hm' (by rw[HBZ.out,HQ0.out];exact HQ.out) (by rw[HBZ.out];exact H92.out) (by rw[HBZ.out];exact h128) (HN.2.2.2.2 e)⟩⟩
     case measure=>simp only[br];omega
  ·have hge:(n:Int)≥(r.size:Int):=by omega
   go_wp2_with (go_at_call 46;refine(bu HN.2.2.2.1 1).mono ?_;rintro e w' ⟨rfl,hw⟩);go_ret;exact GoPost.bad hw (fQ (by decide)) (by omega)
end Go.Proofs.YtnclklfhjbkjhaaGreatDoor
namespace Go.Proofs.YtnclklfhjbkjhaaGreatDoor
open Go.RowKit
theorem eE(s:ByteArray)(i:Nat):0≤bz s i∧bz s i<256:=by
 unfold bz;have:=(s.toList.getD i 0).toNat_lt;omega
theorem dg_H{c:Int}:dg c<16↔eU c=true:=by
 unfold dg eU;cases h:aV c
 ·simp only[Bool.false_eq_true,if_false,Bool.false_or,Bool.or_eq_true,Bool.and_eq_true,decide_eq_true_eq];split
  ·omega
  ·split
   ·omega
   ·omega
 ·have:=cR h;simp only[if_true,Bool.true_or,iff_true];omega
theorem dg_O{c:Int}:dg c<8↔dE c=true:=by
 unfold dg dE;cases h:aV c
 ·simp only[Bool.false_eq_true,if_false,Bool.and_eq_true,decide_eq_true_eq];have:¬ (48≤c∧c≤57):=fun e=>by simp[aV,e] at h
  split
  ·omega
  ·split
   ·omega
   ·omega
 ·have:=cR h;simp only[if_true,Bool.and_eq_true,decide_eq_true_eq];omega
theorem mi{b:Int}{s:ByteArray}{n:Nat}(h:n<s.size):cz b (s.extract n (n+1))=decide (dg (bz s n) <b):=by
 have hz:(s.extract n (n+1)).size=1:=by rw[qo];omega
 have hb:bz (s.extract n (n+1)) 0=bz s n:=by
  have h2:0< (s.extract n (n+1)).size:=by omega
  rw[aq h2,aq h,ByteArray.getElem_extract];simp
 unfold cz;rw[hz];rw[Bool.eq_iff_iff];simp only[Bool.and_eq_true,decide_eq_true_eq];constructor
 ·intro hh;have:=hh.1 0 (by omega)
  rwa [hb] at this
 ·intro hh;refine⟨fun i hi=>?_,by omega⟩;have:i=0:=by omega
  subst this
  rwa [hb]
theorem vR(s:ByteArray){i:Nat}(h:i<s.size):b8 (bz s i)=s[i]:=by
 rw[aq h];unfold b8;simp
theorem bL(s:ByteArray)(i j:Nat):(s.extract i j).toList=fG (sg s i j):=by
 have e:fG (tx s i)=s.toList.drop i:=by
  unfold fG tx;rw[List.map_map];have:(b8 ∘ fun b:UInt8=>(b.toNat:Int))=id:=by
   funext b;unfold b8;simp
  rw[this,List.map_id]
 unfold sg;unfold fG at*
 rw[List.map_take,e,qi,qi,ByteArray.data_extract,Array.toList_extract,List.extract_eq_take_drop]
theorem xy{c:Int}(h:dg c<16):gC (b8 c)=some (dg c).toNat:=by
 have hh:=fq (dg_H.1 h);have key:∀n:Nat,n<128→dg (n:Int) <16→gC (b8 (n:Int))=some (dg (n:Int)).toNat:=by decide
 have:=key c.toNat (by omega) (by rwa [show((c.toNat:Nat):Int)=c from by omega])
 rwa [show((c.toNat:Nat):Int)=c from by omega] at this
theorem ib{b:Nat}(hb:b≤16):∀ (l:List Int) (m:Nat),(∀c∈l,0≤c∧0≤dg c∧dg c<b)→∃v,ay b (fG l) m=some v
 | [],m,_=>⟨m,rfl⟩
 |c::l,m,h=>by
  obtain⟨h0,h1,h2⟩:=h c (by simp);have hd:=xy (c:=c) (by omega);obtain⟨v,hv⟩:=ib hb l (m*b+(dg c).toNat) fun x hx=>h x (by simp[hx])
  refine⟨v,?_⟩;show ay b (b8 c::fG l) m=_;unfold ay;rw[hd];simp only;rw[if_pos (by omega)];exact hv
theorem vQ(c:Int):0≤dg c:=by
 unfold dg;cases h:aV c
 ·simp only[Bool.false_eq_true,if_false];split
  ·omega
  ·split
   ·omega
   ·omega
 ·have:=cR h;simp only[if_true];omega
theorem bN{b:Nat}(hb:b≤16){l:List Int}(hl:l≠[])(h:∀c∈l,0≤c∧dg c<b):∃v,bA b (fG l)=some v∧v<b^l.length:=by
 obtain⟨v,hv⟩:=ib hb l 0 fun c hc=>⟨(h c hc).1,vQ c,(h c hc).2⟩
 have hp:bA b (fG l)=some v:=by
  unfold bA;rw[if_neg (by cases l with|nil=>exact absurd rfl hl|cons c l=>simp[fG])];exact hv
 refine⟨v,hp,?_⟩;have hb0:0<b:=by
  cases l with
  |nil=>exact absurd rfl hl
  |cons c l=>
   have:=h c (by simp);have:=vQ c;omega
 have:=pc hb0 hp
 rwa [show(fG l).length=l.length from by simp[fG]] at this
def dO(d:ByteArray)(b:Nat)(w:World)(e:Ending)(w':World):Prop:=
 ∃ (v:Int) (ev:Value),e= .returned (.tuple #[.int .u64 v,ev])∧Keep w w'∧(ev= .nilIface∨∃T a,ev= .iface T a)∧0≤v∧v<18446744073709551616∧(∀N,bA b d.toList=some N→N<18446744073709551616→v=(N:Int)∧ev= .nilIface)
theorem eA{b:Int}{s:ByteArray}{i j:Nat}(hij:i<j)(hj:j≤s.size)(h:∀x,i≤x→x<j→dg (bz s x) <b):cz b (s.extract i j)=true:=by
 unfold cz;rw[Bool.and_eq_true,decide_eq_true_eq,decide_eq_true_eq];refine⟨fun x hx=>?_,by rw[qo];omega⟩;have hx2:i+x<s.size:=by rw[qo] at hx;omega
 rw[aq hx,ByteArray.getElem_extract,←aq hx2];rw[qo] at hx;exact h (i+x) (by omega) (by omega)
theorem eh{s:ByteArray}{i j:Nat}(h:i<j)(hj:j≤s.size):sg s i j=bz s i::sg s (i+1) j:=by
 unfold sg;rw[aL (by omega),show j-i=(j- (i+1))+1 from by omega,List.take_succ_cons]
theorem eH(s:ByteArray)(i:Nat):sg s i i=[]:=by unfold sg;rw[Nat.sub_self,List.take_zero]
theorem bw{s:ByteArray}{i j:Nat}(hj:j≤s.size):(sg s i j).length=j-i:=by
 unfold sg;rw[List.length_take,ec];omega
end Go.Proofs.YtnclklfhjbkjhaaGreatDoor
