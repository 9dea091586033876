/- Part of the proof: J3 J4 J5. -/
import Derived.Test.YtnclklfhjbkjhaaGreatDoorJa
import Derived.WalkMore
set_option maxRecDepth 1000000
set_option maxHeartbeats 40000000
set_option linter.unusedSimpArgs false
namespace Go.Proofs.YtnclklfhjbkjhaaGreatDoor
open Tryz
open Go.RowKit
def LC(w:World)(b:Nat):Prop:=b≠21∧∃B o,B≠b∧w.cell? ⟨21,0,none⟩=some (.slice (some ⟨B,o,none⟩) 61 61)∧∀k,1≤k→k≤60→∃ (d:Nat) (s:ByteArray) (c:List Nat),w.cell? ⟨B,o+k*2,none⟩=some (.int .i64 (d:Int))∧w.cell? ⟨B,o+k*2+1,none⟩=some (.string s)∧iG s c∧Cheat k d c
theorem LC.fr{w w':World}{b:Nat}(h:LC w b)(k:Fr (· =b) w w'):LC w' b:=by
 obtain⟨h1,B,o,h2,h3,h4⟩:=h;refine⟨h1,B,o,h2,Fr.cell k (fun e=>h1 e.symm) h3,fun j g1 g2=>?_⟩;obtain⟨d,s,c,k1,k2,k3,k4⟩:=h4 j g1 g2;exact⟨d,s,c,Fr.cell k h2 k1,Fr.cell k h2 k2,k3,k4⟩
def LS(b a:Nat)(dp:Int)(w':World):Prop:=∃ (f:Nat) (t:List Nat) (dp':Int) (tr':Bool),DM w' b (f::t) dp' tr'∧0<f∧dp≤dp'∧dp'≤dp+19∧(dp'=dp→a<f)
theorem DV.done2{w:World}{B:Nat}{l:List Nat}{c d b n:Nat}{g:Option Nat}{dp:Int}{tr:Bool}(h:DV w B l c d 0 b g dp tr)(hn:n≤b)(hn8:n≤800)(x:Value):
  ∃l':List Nat,l'.length=n∧(∀f,g=some f→0<n→∃t,l'=f::t)∧DM ((w.setCell ⟨B,800,none⟩ x).setCell ⟨B,800,none⟩ (.int .i64 (n:Int))) B l' dp tr:=by
 obtain⟨cs,h1,h2⟩:=h;obtain⟨l',g1,g2,g3⟩:=h2.done hn hn8;refine⟨l',g1,g2,_,ag (ag h1 _ _) _ _,?_⟩;rw[Array.setIfInBounds_setIfInBounds];exact g3
structure LN(k:Nat)(l:List Nat)(j:Nat)(d C Y N1 Q R:Nat):Prop where
 x2:IntKind.u64.wrap (((48+d:Nat):Int) -48)=(d:Int)
 y:IntKind.u64.wrap ((d:Int) *2^k)=(Y:Int)
 n:IntKind.u64.wrap ((C:Int)+(Y:Int))=(N1:Int)
 q:(N1:Int) /10=(Q:Int)
 m:IntKind.u64.wrap (10* (Q:Int))=10* (Q:Int)
 r:IntKind.u64.wrap ((N1:Int) -10* (Q:Int))=(R:Int)
 wq:IntKind.u64.wrap (Q:Int)=(Q:Int)
 fig:R<10
 step:Q=bM k l j
 low:R=(bM k l (j+1)+d*2^k) %10
theorem LN.intro{k:Nat}{l:List Nat}{j:Nat}(hk:k≤60)(hl:gF l)(hj:j<l.length):∃Y N1 Q R,LN k l j l[j] (bM k l (j+1)) Y N1 Q R:=by
 have h60:=cC hk;have hd:=hl _ (List.getElem_mem hj);have hc:=jD k l (j+1) hl;have hs:=jC k l j hj;generalize hgd:l[j]=d at*
 have hY:d*2^k≤9*2^k:=Nat.mul_le_mul_right _ (by omega);obtain⟨Y,hYe⟩:∃Y,Y=d*2^k:=⟨_,rfl⟩;rw[←hYe] at hY hs;have e:(d:Int) *2^k=(Y:Int):=by rw[hYe];simp
 refine⟨Y,bM k l (j+1)+Y,(bM k l (j+1)+Y) /10,(bM k l (j+1)+Y) %10,?_,?_,?_,?_,?_,?_,?_,by omega,hs.symm,by rw[hYe]⟩
 ·rw[IntKind.wrap_u64];omega
 ·rw[e,IntKind.wrap_u64];omega
 ·rw[IntKind.wrap_u64];omega
 ·omega
 ·rw[IntKind.wrap_u64];omega
 ·rw[IntKind.wrap_u64];omega
 ·rw[IntKind.wrap_u64];omega
theorem rn{n:Nat}(hn:n<18446744073709551616):(n:Int) /10=((n/10:Nat):Int)∧IntKind.u64.wrap (10* ((n/10:Nat):Int))=10* ((n/10:Nat):Int)∧IntKind.u64.wrap ((n:Int) -10* ((n/10:Nat):Int))=((n%10:Nat):Int)∧IntKind.u64.wrap ((n/10:Nat):Int)=((n/10:Nat):Int):=by
 rw[IntKind.wrap_u64,IntKind.wrap_u64,IntKind.wrap_u64];omega
theorem sG:prog.arrayLen 261=800:=by kernel_rfl
theorem wi:prog.underlying 261=some (.array (prog.arrayLen 261) (prog.elem 261)):=by kernel_rfl
theorem ug(w:World):(sizeOf (prog.elem 261)).run prog w= .ok 1 w:=by kernel_rfl
theorem rx(w:World)(b n:Nat)(hn:n≤800):(Instr.sliceAt 261 (.pointer (some ⟨b,0,none⟩)) (some (.int .i64 0)) (some (.int .i64 (n:Int))) none).run prog w= .ok (.slice (some ⟨b,0,none⟩) n 800) w:=by
 rw[run_sliceAt_array_lh (P:=prog) w 261 ⟨b,0,none⟩ wi .i64 .i64 0 (n:Int) (by decide) (by omega) (by rw[sG];omega),ug,sG];simp[slicedAt,Result.andThen,Addr.add]
theorem fJ(b k a:Nat)(l l':List Nat)(dp:Int)(tr:Bool)(w:World)(hl:l=a::l')(ha:0<a)(hk0:0<k)(hk:k≤60)(hdp0: -100000000≤dp)(hdp1:dp≤100000000)(hd:DM w b l dp tr)(hlc:LC w b):
  Calls prog 206 #[.pointer (some ⟨b,0,none⟩),.int .u64 (k:Int)] w (fun en w'=>en= .returned (.tuple #[])∧Fr (· =b) w w'∧LS b a dp w'):=by
 have HD:=Z hd;obtain⟨-,B,bo,-,hs,ht⟩:=hlc;obtain⟨D,s,c,hc1,hc2,hft,hch⟩:=ht k hk0 hk;have HFT:=Z hft;have hsm:=hch.small hk;have hfigs:gF l:=by obtain⟨cs,-,hc⟩:=hd;exact hc.figs
 have HLB:=Z (LB.ofCount hch hfigs a l' hl ha);have HUP:=Z (fun h0:bM k l 0=0=>sW hl ha hk0 h0);have hlp:0<l.length:=by rw[hl];simp
 have h0a:∀ (h:0<l.length),l[0]=a:=fun h=>by subst hl;rfl
 have H0:=Z h0a;have HFG:=Z hfigs;have hN19:=Nat.le_trans (wU D l c) hsm.1;have hD19:=hsm.1;have hD0:=hch.pos;have hc800:c.length≤800:=Nat.le_trans hsm.2 (by decide);obtain⟨N,hN⟩:∃N,N=tV D l c:=⟨_,rfl⟩;have HNd:=Z hN;rw[←hN] at HLB hN19;clear hd hl h0a ht hft hch hsm hfigs hN;go_enter func206,ntmps206;obtain⟨f0,f1,-,-,ff,fd,fl⟩:=HD.facts;have HFd:=Z fd;clear fd;have hkz:(k:Int) <61:=by omega
 go_step;go_step;go_cut [4] (fun s4 wr=>s4= .int .i64 (D:Int)∧wr=w)
 case first=>
  go_wp2_with fail;go_meet;exact⟨rfl,rfl⟩
 case rest=>
  obtain⟨rfl,ew⟩:=hcut;have ew':=ew.symm;clear ew;subst ew';go_step;go_step;go_cut [4] (fun s4 wr=>s4= .int .i64 (N:Int)∧Hid (Keep w wr))
  case first=>
   have hsl:=fun W=>rx W b l.length fl
   obtain⟨p,hpe⟩:∃p,p=bD l c:=⟨_,rfl⟩;have HPE:=Z hpe;clear hpe;have hDz:(D:Int)≤19:=by omega
   have hDz0:0< (D:Int):=by omega
   go_wp2_with fail;go_region_with (go_at_call 212;refine(i6 b 800 l c s w.drew fl hc800 HFT.out HFd.out).mono ?_;rintro e w' ⟨he,kk⟩;rw[←HPE.out] at he;subst he;have HKK:=Z kk;clear kk)
   all_goals
    cases p
    ·have hz:D=N:=by
      have h:=HNd.out;unfold tV at h;rw[if_neg (by rw[←HPE.out];decide)] at h;exact h.symm
     have HZ:=Z hz;clear hz;go_wp2_with fail;go_meet;exact⟨by rw[HZ.out],Z (Fr.trans ((Fr.refl w).drew) HKK.out)⟩
    ·have hz:(D:Int) -1=(N:Int):=by
      have h:=HNd.out;unfold tV at h;rw[if_pos HPE.symm] at h;omega
     have HZ:=Z hz;clear hz;go_wp2_with fail;go_meet;exact⟨by rw[HZ.out],Z (Fr.trans ((Fr.refl w).drew) HKK.out)⟩
  case rest=>
   obtain⟨rfl,HK⟩:=hcut;have HD1:=Z (DM.keep HD HK);clear f0 f1 ff hc1 hc2 hs HFd HFT hkz hc800 hD0 HNd;obtain⟨g0,g1,-,-,gg,gd,gl⟩:=HD1.facts;have hglz:(l.length:Int)≤800:=by omega
   have hN0:(N:Int)≤19:=by omega
   have HV:=Z (HD1.toDV (l.length+N));clear gg gd gl;have HK0:Hid (Fr (· =b) w wc):=Z HK.fr;go_upto_block 0 with fail;go_cut [6,7] (fun s6 s7 wr=>s6= .int .i64 (N:Int)∧s7= .int .u64 ((bM k l 0:Nat):Int)∧∃ (g:Option Nat) (tr':Bool),Hid (Fr (· =b) w wr)∧Hid (DV wr b l 0 0 N (l.length+N) g dp tr')∧Hid (N=0→∃f,g=some f∧a<f))
   case first=>
    go_wp2_with fail;go_loopw [5,6,7] (fun s5 s6 s7 wr=>∃ (r V C:Nat) (z:Int) (g:Option Nat) (tr':Bool),s5= .int .i64 z∧z=(r:Int) -1∧s6= .int .i64 (V:Int)∧V=r+N∧s7= .int .u64 (C:Int)∧C=bM k l r∧r≤l.length∧Hid (Fr (· =b) w wr)∧Hid (DV wr b l 0 r V (l.length+N) g dp tr')∧Hid (r=0→N=0→∃f,g=some f∧a<f)) (fun s5 _ _ _=>match s5 with| .int _ i=>(i+1).toNat|_=>0)
    case atStart=>exact⟨l.length,l.length+N,0,_,none,tr,rfl,rfl,by simp,rfl,rfl,(qU k l).symm,Nat.le_refl _,HK0,HV,Z fun e=>absurd e (by omega)⟩
    case round=>
     obtain⟨r,V,C,z,g,tr',rfl,hz,rfl,hV,rfl,hC,hr,HFr,HDV,HG⟩:=hrel;obtain⟨-,-,g3,gg,go_,ga,-⟩:=HDV.facts;by_cases h0:r=0
     ·subst h0;have hz1:z= -1:=by omega
      subst hz1;have hVN:V=N:=by omega
      subst hVN;clear g3 gg go_ ga hV hz;have HCe:=Z hC;clear hC;go_wp2_with fail;go_meet;exact⟨rfl,by rw[HCe.out],g,tr',HFr,Z HDV.out,Z (HG.out (by trivial))⟩
     ·obtain⟨j,rfl⟩:∃j,r=j+1:=⟨r-1,by omega⟩;have hzj:z=(j:Int):=by omega
      subst hzj;have hj:j<l.length:=by omega
      have hjz:(j:Int) <800:=by omega
      obtain⟨U,hU⟩:∃U,V=U+1:=⟨V-1,by omega⟩;subst hU;have hUz:(U:Int)≤819:=by omega
      have f:=go_ j hj (Nat.zero_le _) (Nat.lt_succ_self _);obtain⟨Y,N1,Q,R,ln⟩:=LN.intro hk HFG hj;rw[←hC] at ln;generalize hld:l[j]=d at f ln;have LNH:=Z ln;obtain⟨x2,y1,n1,q1,m1,r1,wq,rfg,-,-⟩:=ln;have x1:IntKind.u64.wrap ((48+d:Nat):Int)=((48+d:Nat):Int):=by
       have:=HFG _ (List.getElem_mem hj);rw[IntKind.wrap_u64];omega
      obtain⟨x,hx⟩:∃x,x=((48+d:Nat):Int):=⟨_,rfl⟩;rw[←hx] at f x1 x2;have HLD:=Z hld;have HG2:Hid (∀g',(U=0→g'=some R)→j=0→N=0→∃f,g'=some f∧a<f):=Z fun g' hg' e1 e2=>by
       subst e1;have hu:U=0:=by omega
       refine⟨R,hg' hu,?_⟩;have hb:=HLB.lt;rw[e2] at hb;have h1:=HUP.out (by simpa using hb);rw[LNH.low,←HLD.out,H0.out];exact h1
      have HVe:=Z hV;clear hx hld go_ hz;by_cases h8:U<800
      ·have h8z:(U:Int) <800:=by omega
       have HP:=Z (HDV.put U h8 R rfg 0 j U (l.length+N) (fun i h1 h2 _=>by omega) (fun i h1 h2 _=>by omega));have hw1:=(c8 rfg).1;have hw2:=(c8 rfg).2;obtain⟨X,hX⟩:∃X,X=((48+R:Nat):Int):=⟨_,rfl⟩;rw[←hX] at HP hw1 hw2;obtain⟨y,fy⟩:=ga U h8;have ffv:=gg U;clear hX gg ga g3 rfg hC hV h0;go_wp2_with fail;refine⟨⟨j,U,Q,_,_,tr',rfl,by omega,by simp,by have:=HVe.out;omega,rfl,LNH.step,by omega,Z (HFr.setIn _ rfl),HP,Z (HG2.out _ fun e=>by rw[if_pos e])⟩,?_⟩;simp only;omega
      ·have h8z:¬ (U:Int) <800:=by omega
       have HP:=Z (HDV.less 0 j U (l.length+N) qr (by omega) (fun i h1 h2 h3=>absurd h3 (by omega)));have ffv:=gg 803;by_cases hq0:R=0
       ·have hq0z:((R:Int) !=0)=false:=by simp[hq0]
        clear gg ga rfg hC hV h0 g3;go_wp2_with fail;refine⟨⟨j,U,Q,_,g,tr',rfl,by omega,by simp,by have:=HVe.out;omega,rfl,LNH.step,by omega,HFr,HP,Z (HG2.out _ fun e=>absurd e (by omega))⟩,?_⟩;simp only;omega
       ·have hq0z:((R:Int) !=0)=true:=by simp[hq0]
        have HP2:=Z (HP.setTr true);clear gg ga rfg hC hV h0 hq0;go_wp2_with fail;refine⟨⟨j,U,Q,_,g,true,rfl,by omega,by simp,by have:=HVe.out;omega,rfl,LNH.step,by omega,Z (HFr.setIn _ rfl),HP2,Z (HG2.out _ fun e=>absurd e (by omega))⟩,?_⟩;simp only;omega
   case rest=>
    obtain⟨rfl,rfl,g,tr2,HFr,HDV,HG⟩:=hcut;have hC0:bM k l 0<18446744073709551616:=by
     have h1:=jD k l 0 HFG.out;have h2:=cC hk;omega
    clear g0 g1;generalize bM k l 0=C at HLB hC0;go_wp2_with fail;go_loopw [6,7] (fun s6 s7 wr=>∃ (v n:Nat) (g:Option Nat) (tr':Bool),s6= .int .i64 (v:Int)∧s7= .int .u64 (n:Int)∧v≤N∧n<18446744073709551616∧Hid (LB v n)∧Hid (Fr (· =b) w wr)∧Hid (DV wr b l 0 0 v (l.length+N) g dp tr')∧Hid (v=0→∃f,g=some f∧0<f∧(N=0→a<f))) (fun s6 _ _=>match s6 with| .int _ i=>i.toNat|_=>0)
    case atStart=>exact⟨N,C,g,tr2,rfl,rfl,Nat.le_refl _,hC0,HLB,HFr,HDV,Z fun e=>by
     obtain⟨f,h1,h2⟩:=HG e;exact⟨f,h1,by omega,fun _=>h2⟩⟩
    case round=>
     obtain⟨v,n,g,tr',rfl,rfl,hvN,hn64,HB,HFr,HDV,HG⟩:=hrel;obtain⟨g0,g1,g3,gg,-,ga,-⟩:=HDV.facts;by_cases h0:0<n
     ·have h0z:(n:Int) >0:=by omega
      obtain⟨u,rfl,hb2,hu0⟩:=HB.step h0;obtain⟨q1,m1,r1,wq⟩:=rn hn64;obtain⟨Q,hQ⟩:∃Q,Q=n/10:=⟨_,rfl⟩;obtain⟨R,hR⟩:∃R,R=n%10:=⟨_,rfl⟩;rw[←hQ] at q1 m1 r1 wq hb2;rw[←hR] at r1 hu0;have hQ64:Q<18446744073709551616:=by omega
      have rfg:R<10:=by omega
      have hu8:u<800:=by omega
      have huz:(u:Int) <800:=by omega
      have HB2:=Z hb2;have HG2:Hid (u=0→∃f,(if u=0 then some R else g)=some f∧0<f∧(N=0→a<f)):=Z fun e=>⟨R,by rw[if_pos e],by rw[hu0 e];exact h0,fun e2=>absurd hvN (by omega)⟩
      have HP:=Z (HDV.put u hu8 R rfg 0 0 u (l.length+N) (fun i h1 h2 _=>by omega) (fun i h1 h2 _=>by omega));have hw1:=(c8 rfg).1;have hw2:=(c8 rfg).2;obtain⟨X,hX⟩:∃X,X=((48+R:Nat):Int):=⟨_,rfl⟩;rw[←hX] at HP hw1 hw2;obtain⟨y,fy⟩:=ga u hu8;have ffv:=gg u;clear hX gg ga g3 g0 g1 rfg hQ hR hb2 hu0 h0;go_wp2_with fail;refine⟨⟨u,Q,_,tr',by simp,rfl,by omega,hQ64,HB2,Z (HFr.setIn _ rfl),HP,HG2⟩,?_⟩;simp only;omega
     ·have hn0:n=0:=by omega
      have hv0:v=0:=HB.none hn0;subst hn0 hv0;obtain⟨f,hgf,hf0,hfN⟩:=HG rfl;have HFA:=Z (And.intro hf0 hfN);have hlz:0< (l.length:Int):=by omega
      clear h0 HG HB;by_cases h8:l.length+N<800
      ·have h8z:¬ (l.length:Int)+(N:Int)≥800:=by omega
       obtain⟨l2,hl2,hl3,hdm⟩:=HDV.done (Nat.le_refl (l.length+N)) (by omega);obtain⟨t2,ht2⟩:=hl3 f hgf (by omega);have hdm2:=hdm.setDp (dp+(N:Int));have e:(((l.length+N:Nat)):Int)=(l.length:Int)+(N:Int):=by simp
       rw[e] at hdm2;have HDM:=Z hdm2;have HL2:=Z ht2;have ff0:=gg 800;have ff1:=gg 801;clear hdm ht2 hl3 hl2 gg ga g3 e hdm2 hfN hgf;go_wp2_with (go_at_call 213;refine(iO b l2 (dp+(N:Int)) tr' _ HDM).mono ?_;rintro e w2 ⟨rfl,hF2,nn,dp',hnn,hdm2,hdd,hpf⟩);refine bodyPost_end (results_none results206 _ _ _) rfl ⟨rfl,Fr.trans ((HFr.setIn _ rfl).setIn _ rfl) hF2,?_⟩;have hn0:=hpf f t2 HL2 HFA.1;obtain⟨u,rfl⟩:∃u,nn=u+1:=⟨nn-1,by omega⟩;rw[HL2.out,List.take_succ_cons] at hdm2;have hdd':dp'=dp+(N:Int):=hdd.resolve_right (by omega);subst hdd';exact⟨f,_,_,_,hdm2,HFA.1,by omega,by omega,fun e=>HFA.2 (by omega)⟩
      ·have h8z:(l.length:Int)+(N:Int)≥800:=by omega
       obtain⟨l2,hl2,hl3,hdm⟩:=HDV.done2 (n:=800) (by omega) qr (.int .i64 ((l.length:Int)+(N:Int)));obtain⟨t2,ht2⟩:=hl3 f hgf (by omega);have HDM:=Z (hdm.setDp (dp+(N:Int)));have HL2:=Z ht2;have ff0:=gg 800;have ff1:=gg 801;clear hdm ht2 hl3 hl2 gg ga g3 hfN hgf;go_wp2_with (go_at_call 213;refine(iO b l2 (dp+(N:Int)) tr' _ HDM).mono ?_;rintro e w2 ⟨rfl,hF2,nn,dp',hnn,hdm2,hdd,hpf⟩);refine bodyPost_end (results_none results206 _ _ _) rfl ⟨rfl,Fr.trans (((HFr.setIn _ rfl).setIn _ rfl).setIn _ rfl) hF2,?_⟩;have hn0:=hpf f t2 HL2 HFA.1;obtain⟨u,rfl⟩:∃u,nn=u+1:=⟨nn-1,by omega⟩;rw[HL2.out,List.take_succ_cons] at hdm2;have hdd':dp'=dp+(N:Int):=hdd.resolve_right (by omega);subst hdd';exact⟨f,_,_,_,hdm2,HFA.1,by omega,by omega,fun e=>HFA.2 (by omega)⟩
def SL(b a:Nat)(dp:Int)(k:Nat)(w':World):Prop:=∃ (f:Nat) (t:List Nat) (dp':Int) (tr':Bool),DM w' b (f::t) dp' tr'∧0<f∧dp≤dp'∧dp'≤dp+19* (k:Int)∧(dp'=dp→a<f)
def SR(b a:Nat)(dp:Int)(k:Nat)(w':World):Prop:=∃ (f:Nat) (t:List Nat) (dp':Int) (tr':Bool),DM w' b (f::t) dp' tr'∧0<f∧dp-19* (k:Int)≤dp'∧dp'≤dp∧(dp'=dp→f<a)
theorem ef(b k a:Nat)(l':List Nat)(dp:Int)(tr:Bool)(w:World)(ha:0<a)(hk0:0<k)(hk:k≤1000000)(hdp0: -10000000≤dp)(hdp1:dp≤10000000)(hd:DM w b (a::l') dp tr)(hlc:LC w b):
  Calls prog 198 #[.pointer (some ⟨b,0,none⟩),.int .i64 (k:Int)] w (fun en w'=>en= .returned (.tuple #[])∧Fr (· =b) w w'∧SL b a dp k w'):=by
 have HD:=Z hd;have HC:=Z hlc;obtain⟨f0,-⟩:=hd.facts;obtain⟨L,hL⟩:∃L:Nat,L=(a::l').length:=⟨_,rfl⟩;rw[←hL] at f0;have hL0:((L:Int) ==0)=false:=bf (by rw[hL];simp;omega);have hkz:(k:Int) >0:=by omega
 have hkz2:(k:Int)≤1000000:=by omega
 clear hd hlc hL;go_enter func198,ntmps198;go_wp2_with fail;go_loopw [1] (fun s1 wr=>∃ (j f:Nat) (t:List Nat) (dp':Int) (tr':Bool),s1= .int .i64 (j:Int)∧0<j∧j≤k∧0<f∧dp≤dp'∧dp'≤dp+19* ((k:Int) - (j:Int))∧(dp'=dp→a≤f)∧Hid (Fr (· =b) w wr)∧Hid (DM wr b (f::t) dp' tr')) (fun s1 _=>match s1 with| .int _ i=>i.toNat|_=>0)
 case atStart=>exact⟨k,a,l',dp,tr,rfl,hk0,Nat.le_refl _,ha,Int.le_refl _,by omega,fun _=>Nat.le_refl _,Z (Fr.refl _),HD⟩
 case round=>
  obtain⟨j,f,t,dp',tr',rfl,hj0,hjk,hf0,hd0,hd1,haf,HFr,HDM⟩:=hrel;clear f0;by_cases h60:60<j
  ·have hz:(j:Int) >60:=by omega
   have HAF:=Z haf;have hjz:(j:Int)≤1000000:=by omega
   clear haf;go_wp2_with (go_at_call 206;refine(fJ b 60 f (f::t) t dp' tr' wr rfl hf0 (by decide) (by decide) (by omega) (by omega) HDM (LC.fr HC HFr)).mono ?_;rintro e w2 ⟨rfl,hF2,f2,t2,dp2,tr2,hdm2,hf2,hd2,hd3,hd4⟩);refine⟨⟨j-60,f2,t2,dp2,tr2,by(congr 1;omega),by omega,by omega,hf2,by omega,by omega,fun e=>?_,Z (HFr.trans hF2),Z hdm2⟩,?_⟩
   ·have e2:dp'=dp:=by omega
    exact Nat.le_of_lt (Nat.lt_of_le_of_lt (HAF e2) (hd4 (by omega)))
   ·simp only;omega
  ·have hz:¬ (j:Int) >60:=by omega
   have HAF:=Z haf;have hw:IntKind.u64.wrap (j:Int)=(j:Int):=by rw[IntKind.wrap_u64];omega
   clear haf;go_wp2_with (go_at_call 206;refine(fJ b j f (f::t) t dp' tr' wr rfl hf0 hj0 (by omega) (by omega) (by omega) HDM (LC.fr HC HFr)).mono ?_;rintro e w2 ⟨rfl,hF2,f2,t2,dp2,tr2,hdm2,hf2,hd2,hd3,hd4⟩);refine bodyPost_end (results_none results198 _ _ _) rfl ⟨rfl,HFr.trans hF2,f2,t2,dp2,tr2,hdm2,hf2,by omega,by omega,fun e=>?_⟩;have e2:dp'=dp:=by omega
   exact Nat.lt_of_le_of_lt (HAF e2) (hd4 (by omega))
theorem nU(b k a:Nat)(l':List Nat)(dp:Int)(tr:Bool)(w:World)(ha:0<a)(hk0:0<k)(hk:k≤1000000)(hdp0: -10000000≤dp)(hdp1:dp≤10000000)(hd:DM w b (a::l') dp tr):
  Calls prog 198 #[.pointer (some ⟨b,0,none⟩),.int .i64 (-(k:Int))] w (fun en w'=>en= .returned (.tuple #[])∧Fr (· =b) w w'∧SR b a dp k w'):=by
 have HD:=Z hd;obtain⟨f0,-⟩:=hd.facts;obtain⟨L,hL⟩:∃L:Nat,L=(a::l').length:=⟨_,rfl⟩;rw[←hL] at f0;have hL0:((L:Int) ==0)=false:=bf (by rw[hL];simp;omega);have hkz: -(k:Int) <0:=by omega
 have hkz3:¬ -(k:Int) >0:=by omega
 have hkz2:(k:Int)≤1000000:=by omega
 clear hd hL;go_enter func198,ntmps198;go_wp2_with fail;go_loopw [1] (fun s1 wr=>∃ (j f:Nat) (t:List Nat) (dp':Int) (tr':Bool),s1= .int .i64 (-(j:Int))∧0<j∧j≤k∧0<f∧dp'≤dp∧dp-19* ((k:Int) - (j:Int))≤dp'∧(dp'=dp→f≤a)∧Hid (Fr (· =b) w wr)∧Hid (DM wr b (f::t) dp' tr')) (fun s1 _=>match s1 with| .int _ i=>(-i).toNat|_=>0)
 case atStart=>exact⟨k,a,l',dp,tr,rfl,hk0,Nat.le_refl _,ha,Int.le_refl _,by omega,fun _=>Nat.le_refl _,Z (Fr.refl _),HD⟩
 case round=>
  obtain⟨j,f,t,dp',tr',rfl,hj0,hjk,hf0,hd0,hd1,haf,HFr,HDM⟩:=hrel;clear f0;by_cases h60:60<j
  ·have hz: -(j:Int) < -60:=by omega
   have HAF:=Z haf;have hjz:(j:Int)≤1000000:=by omega
   clear haf;go_wp2_with (go_at_call 207;refine(eK b 60 f (f::t) t dp' tr' wr rfl hf0 (by decide) (by decide) (by omega) (by omega) HDM).mono ?_;rintro e w2 ⟨rfl,hF2,f2,t2,dp2,tr2,hdm2,hf2,hd2,hd3,hd4⟩);refine⟨⟨j-60,f2,t2,dp2,tr2,by(congr 1;omega),by omega,by omega,hf2,by omega,by omega,fun e=>?_,Z (HFr.trans hF2),Z hdm2⟩,?_⟩
   ·have e2:dp'=dp:=by omega
    exact Nat.le_of_lt (Nat.lt_of_lt_of_le (hd4 (by omega)) (HAF e2))
   ·simp only;omega
  ·have hz:¬ -(j:Int) < -60:=by omega
   have HAF:=Z haf;have hw:IntKind.u64.wrap (j:Int)=(j:Int):=by rw[IntKind.wrap_u64];omega
   have hjz:(j:Int)≤60:=by omega
   clear haf;go_wp2_with (go_at_call 207;refine(eK b j f (f::t) t dp' tr' wr rfl hf0 hj0 (by omega) (by omega) (by omega) HDM).mono ?_;rintro e w2 ⟨rfl,hF2,f2,t2,dp2,tr2,hdm2,hf2,hd2,hd3,hd4⟩);refine bodyPost_end (results_none results198 _ _ _) rfl ⟨rfl,HFr.trans hF2,f2,t2,dp2,tr2,hdm2,hf2,by omega,by omega,fun e=>?_⟩;have e2:dp'=dp:=by omega
   exact Nat.lt_of_lt_of_le (hd4 (by omega)) (HAF e2)
def qI(P:Program)(c:Code)(Q:Exit→Act→World→Prop):Exit→Act→World→Prop
 | .goto l,a,w=>∃rest,findLabel c l=some rest∧rest.wp P (Exit.noGoto Q) a w
 |e,a,w=>Q e a w
theorem cO{P:Program}{a:Act}{w:World}{Q:Exit→Act→World→Prop}{c:Code}(h:c.wp P (qI P c Q) a w):(Code.scope c).wp P Q a w:=by
 intro b k cs;obtain⟨e,a₁,w₁,hq,harr⟩:=h b (.inScope c::k) cs;cases e with
 |normal=>exact⟨.normal,a₁,w₁,hq,.head step_scope (Steps.trans harr (.one step_inScope))⟩
 |exit id=>exact⟨.exit id,a₁,w₁,hq,fun k' hk=> .head step_scope (harr k' (by simp[exitTo,hk]))⟩
 |goto l=>
  obtain⟨rest,hf,hr⟩:=hq;have hg:gotoIn l (.inScope c::k)=some (.code rest:: .inScope c::k):=by simp[gotoIn,hf]
  obtain⟨e₂,a₂,w₂,hq₂,harr₂⟩:=hr b (.inScope c::k) cs;cases e₂ with
  |normal=>exact⟨.normal,a₂,w₂,hq₂,.of_steps (.head step_scope (harr _ hg)) (Steps.trans harr₂ (.one step_inScope))⟩
  |exit id=>exact⟨.exit id,a₂,w₂,hq₂,fun k' hk=>Steps.trans (.head step_scope (harr _ hg)) (harr₂ k' (by simp[exitTo,hk]))⟩
  |goto l=>exact hq₂.elim
  |ret=>exact⟨_,a₂,w₂,hq₂,.of_steps (.head step_scope (harr _ hg)) harr₂⟩
  |panic ch=>exact⟨_,a₂,w₂,hq₂,.of_steps (.head step_scope (harr _ hg)) harr₂⟩
  |outgrown=>exact⟨_,a₂,w₂,hq₂,.of_steps (.head step_scope (harr _ hg)) harr₂⟩
 |ret=>exact⟨_,a₁,w₁,hq,.of_steps (.one step_scope) harr⟩
 |panic ch=>exact⟨_,a₁,w₁,hq,.of_steps (.one step_scope) harr⟩
 |outgrown=>exact⟨_,a₁,w₁,hq,.of_steps (.one step_scope) harr⟩
structure FI(w:World)(b:Nat):Prop where
 ne:b≠15∧b≠17
 i0:w.cell? ⟨15,0,none⟩=some (.int .u64 52)
 i1:w.cell? ⟨15,1,none⟩=some (.int .u64 11)
 i2:w.cell? ⟨15,2,none⟩=some (.int .i64 (-1023))
 pw:∃B o,B≠b∧w.cell? ⟨17,0,none⟩=some (.slice (some ⟨B,o,none⟩) 9 9)∧∀k<9,∃v:Nat,w.cell? ⟨B,o+k,none⟩=some (.int .i64 (v:Int))∧0<v∧v≤27
theorem FI.fr{w w':World}{b:Nat}(h:FI w b)(k:Fr (· =b) w w'):FI w' b:=by
 obtain⟨h0,h1,h2,h3,B,o,h4,h5,h6⟩:=h;refine⟨h0,Fr.cell k (fun e=>h0.1 e.symm) h1,Fr.cell k (fun e=>h0.1 e.symm) h2,Fr.cell k (fun e=>h0.1 e.symm) h3,B,o,h4,Fr.cell k (fun e=>h0.2 e.symm) h5,fun j hj=>?_⟩;obtain⟨v,g1,g2⟩:=h6 j hj;exact⟨v,Fr.cell k h4 g1,g2⟩
def oV(b:Nat)(w:World)(e:Ending)(w':World):Prop:=(∃ (x:Int) (o:Bool),e= .returned (.tuple #[.int .u64 x,.bool o]))∧Fr (· =b) w w'
theorem jU(b:Nat)(dp:Int)(tr:Bool)(w:World)(hd:DM w b [] dp tr)(hi:FI w b):
  Calls prog 179 #[.pointer (some ⟨b,0,none⟩),.pointer (some ⟨15,0,none⟩)] w (oV b w):=by
 obtain⟨f0,f1,f2,-,ff,-,-⟩:=hd.facts;obtain⟨-,i0,i1,i2,-⟩:=hi;have f0':w.cell? ⟨b,800,none⟩=some (.int .i64 0):=f0;clear f0 ff hd;go_enter func179,ntmps179;go_wp2_with fail;apply cO;go_wp2_with fail;go_step3;refine Exists.intro _ ⟨rfl,?_⟩;go_wp2_with fail;go_region;go_wp2_with fail;rw[Exit.noGoto_ret];exact qh (results_tmp2 results179 _ _ _) rfl ⟨⟨_,_,rfl⟩,(Fr.refl _).drew⟩
theorem DM.head{w:World}{b f:Nat}{t:List Nat}{dp:Int}{tr:Bool}(h:DM w b (f::t) dp tr):f<10:=by
 obtain⟨cs,-,hc⟩:=h;exact hc.figs f (by simp)
def mu0(w:World)(b:Nat):Nat:=match w.cell? ⟨b,801,none⟩,w.cell? ⟨b,0,none⟩ with
 |some (.int _ dp),some (.int _ c)=>if 0<dp then dp.toNat*10+(c.toNat-48) else 0
 |_,_=>0
def mu1(w:World)(b:Nat):Nat:=match w.cell? ⟨b,801,none⟩,w.cell? ⟨b,0,none⟩ with
 |some (.int _ dp),some (.int _ c)=>if 0<dp then 0 else(-dp).toNat*10+(58-c.toNat)
 |_,_=>0
theorem DM.mu0{w:World}{b f:Nat}{t:List Nat}{dp:Int}{tr:Bool}(h:DM w b (f::t) dp tr):mu0 w b=if 0<dp then dp.toNat*10+f else 0:=by
 obtain⟨-,h1,-,-,-,h2,-⟩:=h.facts;have h3:=h2 0 (by simp);unfold Go.Proofs.YtnclklfhjbkjhaaGreatDoor.mu0;rw[h1,h3];have:((48+f:Nat):Int).toNat-48=f:=by omega
 simp only[List.getElem_cons_zero,this]
theorem DM.mu1{w:World}{b f:Nat}{t:List Nat}{dp:Int}{tr:Bool}(h:DM w b (f::t) dp tr):mu1 w b=if 0<dp then 0 else(-dp).toNat*10+(10-f):=by
 obtain⟨-,h1,-,-,-,h2,-⟩:=h.facts;have h3:=h2 0 (by simp);unfold Go.Proofs.YtnclklfhjbkjhaaGreatDoor.mu1;rw[h1,h3];have:(58:Nat) - ((48+f:Nat):Int).toNat=10-f:=by omega
 simp only[List.getElem_cons_zero,this]
theorem gH(b:Nat)(z:Int)(k a:Nat)(l':List Nat)(dp:Int)(tr:Bool)(w:World)(hz:z= -(k:Int))(ha:0<a)(hk0:0<k)(hk:k≤1000000)(hdp0: -10000000≤dp)(hdp1:dp≤10000000)(hd:DM w b (a::l') dp tr):
  Calls prog 198 #[.pointer (some ⟨b,0,none⟩),.int .i64 z] w (fun en w'=>en= .returned (.tuple #[])∧Fr (· =b) w w'∧SR b a dp k w'):=by
 subst hz;exact nU b k a l' dp tr w ha hk0 hk hdp0 hdp1 hd
theorem jV(b a:Nat)(l':List Nat)(dp:Int)(tr:Bool)(w:World)(ha:0<a)(hd:DM w b (a::l') dp tr)(hi:FI w b)(hc:LC w b):
  Calls prog 179 #[.pointer (some ⟨b,0,none⟩),.pointer (some ⟨15,0,none⟩)] w (oV b w):=by
 have HD:=Z hd;have HI:=Z hi;have HC:=Z hc;obtain⟨f0,f1,f2,-,-,-,-⟩:=hd.facts;obtain⟨L,hL⟩:∃L:Nat,L=(a::l').length:=⟨_,rfl⟩;rw[←hL] at f0;have hL0:((L:Int) ==0)=false:=bf (by rw[hL];simp;omega);clear hd hi hc hL;by_cases h310:dp>310
 ·obtain⟨-,i0,i1,i2,-⟩:=HI.out;go_enter func179,ntmps179;go_wp2_with fail;apply cO;go_wp2_with fail;go_step3;refine Exists.intro _ ⟨rfl,?_⟩;go_wp2_with fail;go_region;go_wp2_with fail;go_step3;go_wp2_with fail;go_region;go_wp2_with fail;rw[Exit.noGoto_ret];exact qh (results_tmp2 results179 _ _ _) rfl ⟨⟨_,_,rfl⟩,(Fr.refl _).drew.drew⟩
 by_cases h330:dp< -330
 ·obtain⟨-,i0,i1,i2,-⟩:=HI.out;go_enter func179,ntmps179;go_wp2_with fail;apply cO;go_wp2_with fail;go_step3;refine Exists.intro _ ⟨rfl,?_⟩;go_wp2_with fail;go_region;go_wp2_with fail;rw[Exit.noGoto_ret];exact qh (results_tmp2 results179 _ _ _) rfl ⟨⟨_,_,rfl⟩,(Fr.refl _).drew⟩
 go_enter func179,ntmps179;go_wp2_with fail;apply cO;go_upto_block 0 with fail;clear f0 f1 f2 hL0;go_cut [6] (fun s6 wr=>∃ (e:Int) (f:Nat) (t:List Nat) (dp':Int) (tr':Bool),s6= .int .i64 e∧0≤e∧e≤90000∧ -600≤dp'∧dp'≤0∧0<f∧Hid (Fr (· =b) w wr)∧Hid (DM wr b (f::t) dp' tr'))
 case first=>
  go_wp2_with fail;go_loopw [6] (fun s6 wr=>∃ (e:Int) (f:Nat) (t:List Nat) (dp':Int) (tr':Bool),s6= .int .i64 e∧0≤e∧e+27* (mu0 wr b:Int)≤90000∧ -600≤dp'∧dp'≤310∧0<f∧Hid (Fr (· =b) w wr)∧Hid (DM wr b (f::t) dp' tr')) (fun _ wr=>mu0 wr b)
  case atStart=>
   refine⟨0,a,l',dp,tr,rfl,Int.le_refl _,?_,by omega,by omega,ha,Z (Fr.refl _),HD⟩;have h10:=HD.head;rw[HD.mu0];split<;>omega
  case round=>
   obtain⟨e,f,t,dp',tr',rfl,he0,he1,hd0,hd1,hf0,HFr,HDM⟩:=hrel;have hmu:=HDM.mu0;have h10:=HDM.head;obtain⟨-,g1,-⟩:=HDM.facts;obtain⟨-,i0,i1,i2,B,bo,hB,hs,ht⟩:=HI.fr HFr.out;have HT:=Z ht;have HMU:=Z hmu;have HE1:=Z he1;have hez:e≤90000:=by omega
   clear ht hmu he1 i0 i1 i2 hB;by_cases h0:dp'>0
   ·by_cases h9:dp'≥9
    ·go_wp2_with fail;go_region;go_wp2_with (go_at_call 198;refine(gH b _ 27 f t dp' tr' _ rfl hf0 (by decide) (by decide) (by omega) (by omega) HDM.drew).mono ?_;rintro e w2 ⟨rfl,hF2,f2,t2,dp2,tr2,hdm2,hf2,hd2,hd3,hd4⟩);have hm2:=hdm2.mu0;have h102:=hdm2.head;have hm1:=HMU.out;have he1:=HE1.out;rw[if_pos h0] at hm1;have hlt:mu0 w2 b<mu0 wr b:=by
      rw[hm2,hm1];split
      ·rcases Int.lt_or_eq_of_le hd3 with e|e
       ·omega
       ·have:=hd4 e;omega
      ·omega
     exact⟨⟨e+27,f2,t2,dp2,tr2,rfl,by omega,by omega,by omega,by omega,hf2,Z (HFr.drew.trans hF2),Z hdm2⟩,hlt⟩
    ·obtain⟨k,rfl⟩:=Int.eq_ofNat_of_zero_le (show 0≤dp' by omega);obtain⟨v,hv,hv0,hv27⟩:=HT k (by omega);have hk9:(k:Int) <9:=by omega
     have hvz:(v:Int)≤27:=by omega
     go_wp2_with fail;go_region;go_wp2_with fail;go_region;go_wp2_with (go_at_call 198;refine(gH b _ v f t (k:Int) tr' _ rfl hf0 hv0 (by omega) (by omega) (by omega) HDM.drew.drew).mono ?_;rintro e w2 ⟨rfl,hF2,f2,t2,dp2,tr2,hdm2,hf2,hd2,hd3,hd4⟩);have hm2:=hdm2.mu0;have h102:=hdm2.head;have hm1:=HMU.out;have he1:=HE1.out;rw[if_pos h0] at hm1;have hlt:mu0 w2 b<mu0 wr b:=by
      rw[hm2,hm1];split
      ·rcases Int.lt_or_eq_of_le hd3 with e|e
       ·omega
       ·have:=hd4 e;omega
      ·omega
     exact⟨⟨e+(v:Int),f2,t2,dp2,tr2,rfl,by omega,by omega,by omega,by omega,hf2,Z (HFr.drew.drew.trans hF2),Z hdm2⟩,hlt⟩
   ·go_wp2_with fail;go_meet;exact⟨e,f,t,dp',tr',rfl,he0,hez,hd0,by omega,hf0,HFr,HDM⟩
 case rest=>
  obtain⟨e,f,t,dp',tr',rfl,he0,he1,hd0,hd1,hf0,HFr,HDM⟩:=hcut;go_upto_block 2 with fail;go_cut [6] (fun s6 wr=>∃ (e:Int) (f:Nat) (t:List Nat) (dp':Int) (tr':Bool),s6= .int .i64 e∧ -180000≤e∧e≤90000∧ -600≤dp'∧dp'≤600∧0<f∧Hid (Fr (· =b) w wr)∧Hid (DM wr b (f::t) dp' tr'))
  case first=>
   go_wp2_with fail;go_loopw [6] (fun s6 wr=>∃ (e:Int) (f:Nat) (t:List Nat) (dp':Int) (tr':Bool),s6= .int .i64 e∧ -180000≤e-27* (mu1 wr b:Int)∧e≤90000∧ -600≤dp'∧dp'≤600∧0<f∧Hid (Fr (· =b) w wr)∧Hid (DM wr b (f::t) dp' tr')) (fun _ wr=>mu1 wr b)
   case atStart=>
    refine⟨e,f,t,dp',tr',rfl,?_,he1,hd0,by omega,hf0,HFr,HDM⟩;rw[HDM.mu1];split<;>omega
   case round=>
    obtain⟨e,f,t,dp',tr',rfl,he0,he1,hd0,hd1,hf0,HFr,HDM⟩:=hrel;have hmu:=HDM.mu1;have h10:=HDM.head;obtain⟨-,g1,-,-,-,gd,-⟩:=HDM.facts;have gz:wr.cell? ⟨b,0,none⟩=some (.int .u8 ((48+f:Nat):Int)):=gd 0 (by simp);obtain⟨-,i0,i1,i2,B,bo,hB,hs,ht⟩:=HI.fr HFr.out;have HT:=Z ht;have HMU:=Z hmu;have HE0:=Z he0;have hez: -180000≤e:=by omega
    clear ht hmu he0 i0 i1 i2 hB gd;obtain⟨x,hx⟩:∃x:Int,x=((48+f:Nat):Int):=⟨_,rfl⟩;rw[←hx] at gz;by_cases hgo:dp'<0∨(dp'=0∧x<53)
    ·have hnp:¬0<dp':=by omega
     by_cases h9: -dp'≥9
     ·have hlt0:dp'<0:=by omega
      clear hx;go_wp2_with fail;go_region;go_wp2_with (go_at_call 198;refine(ef b 27 f t dp' tr' _ hf0 (by decide) (by decide) (by omega) (by omega) HDM.drew (HC.fr HFr.drew)).mono ?_;rintro e w2 ⟨rfl,hF2,f2,t2,dp2,tr2,hdm2,hf2,hd2,hd3,hd4⟩);have hm2:=hdm2.mu1;have h102:=hdm2.head;have hm1:=HMU.out;have he1:=HE0.out;rw[if_neg (by omega)] at hm1;have hlt:mu1 w2 b<mu1 wr b:=by
       rw[hm2,hm1];split
       ·omega
       ·rcases Int.lt_or_eq_of_le hd2 with e|e
        ·omega
        ·have:=hd4 e.symm;omega
      exact⟨⟨e-27,f2,t2,dp2,tr2,rfl,by omega,by omega,by omega,by omega,hf2,Z (HFr.drew.trans hF2),Z hdm2⟩,hlt⟩
     ·obtain⟨k,hk⟩:=Int.eq_ofNat_of_zero_le (show 0≤ -dp' by omega);have hdk:dp'= -(k:Int):=by omega
      subst hdk;obtain⟨v,hv,hv0,hv27⟩:=HT k (by omega);have hk9:(k:Int) <9:=by omega
      have hvz:(v:Int)≤27:=by omega
      clear hk;have HGO:Hid (-(k:Int) <0∨(-(k:Int)=0∧x<53)):=Z hgo;clear hgo hx;have hstep:∀w2,Hid (Fr (· =b) wr w2∧SL b f (-(k:Int)) v w2)→((∃ (e':Int) (f:Nat) (t:List Nat) (dp':Int) (tr':Bool),Value.int .i64 (e- (v:Int))= .int .i64 e'∧ -180000≤e'-27* (mu1 w2 b:Int)∧e'≤90000∧ -600≤dp'∧dp'≤600∧0<f∧Hid (Fr (· =b) w w2)∧Hid (DM w2 b (f::t) dp' tr'))∧mu1 w2 b<mu1 wr b):=by
       intro w2 hh;obtain⟨hF2,f2,t2,dp2,tr2,hdm2,hf2,hd2,hd3,hd4⟩:=hh.out;have hm2:=hdm2.mu1;have h102:=hdm2.head;have hm1:=HMU.out;have he1:=HE0.out;rw[if_neg (by omega)] at hm1;have hlt:mu1 w2 b<mu1 wr b:=by
        rw[hm2,hm1];split
        ·omega
        ·rcases Int.lt_or_eq_of_le hd2 with e|e
         ·omega
         ·have:=hd4 e.symm;omega
       exact⟨⟨e- (v:Int),f2,t2,dp2,tr2,rfl,by omega,by omega,by omega,by omega,hf2,Z (HFr.trans hF2),Z hdm2⟩,hlt⟩
      have HST:=Z hstep;clear hstep;by_cases hk0:k=0
      ·subst hk0;have hx53:x<53:=by
        rcases HGO with h|h
        ·omega
        ·exact h.2
       simp only[Nat.add_zero] at hv;go_wp2_with fail;go_region;go_wp2_with fail;go_region;go_wp2_with (go_at_call 198;refine(ef b v f t (-((0:Nat):Int)) tr' _ hf0 hv0 (by omega) (by omega) (by omega) HDM.drew.drew (HC.fr HFr.drew.drew)).mono ?_;rintro e w2 ⟨rfl,hF2,hsl⟩);exact HST _ (Z ⟨(Fr.refl wr).drew.drew.trans hF2,hsl⟩)
      ·have hkn: -(k:Int) <0:=by omega
       go_wp2_with fail;go_region;go_wp2_with fail;go_region;go_wp2_with (go_at_call 198;refine(ef b v f t (-(k:Int)) tr' _ hf0 hv0 (by omega) (by omega) (by omega) HDM.drew.drew (HC.fr HFr.drew.drew)).mono ?_;rintro e w2 ⟨rfl,hF2,hsl⟩);exact HST _ (Z ⟨(Fr.refl wr).drew.drew.trans hF2,hsl⟩)
    ·have hnl:¬dp'<0:=fun h=>hgo (.inl h)
     by_cases hz:dp'=0
     ·subst hz;have hx53:¬x<53:=fun h=>hgo (.inr ⟨rfl,h⟩)
      clear hgo hx;go_wp2_with fail;go_meet;exact⟨e,f,t,0,tr',rfl,hez,he1,hd0,hd1,hf0,HFr,HDM⟩
     ·have hz2:(dp'==0)=false:=beq_eq_false_iff_ne.2 hz;clear hgo hx;go_wp2_with fail;go_meet;exact⟨e,f,t,dp',tr',rfl,hez,he1,hd0,hd1,hf0,HFr,HDM⟩
  case rest=>
   obtain⟨e,f,t,dp',tr',rfl,he0,he1,hd0,hd1,hf0,HFr,HDM⟩:=hcut;go_step;go_step;go_cut [6] (fun s6 wr=>s6= .int .i64 (e-1)∧wr=wc)
   case first=>
    go_wp2_with fail;go_meet;exact⟨rfl,rfl⟩
   case rest=>
    obtain⟨rfl,ew⟩:=hcut;subst ew;go_step;go_step;go_cut [6] (fun s6 wr=>∃ (e:Int) (f:Nat) (t:List Nat) (dp':Int) (tr':Bool),s6= .int .i64 e∧ -1022≤e∧e≤90000∧ -5000000≤dp'∧dp'≤600∧0<f∧Hid (Fr (· =b) w wr)∧Hid (DM wr b (f::t) dp' tr'))
    case first=>
     obtain⟨-,i0,i1,i2,-⟩:=HI.fr HFr.out;by_cases hlo:e-1< -1022
     ·obtain⟨n,hn⟩:=Int.eq_ofNat_of_zero_le (show 0≤ -1022- (e-1) by omega);have HN:=Z hn;clear hn;go_wp2_with (go_at_call 198;refine(gH b _ n f t dp' tr' _ (by have:=HN.out;omega) hf0 (by have:=HN.out;omega) (by have:=HN.out;omega) (by omega) (by omega) HDM).mono ?_;rintro e w2 ⟨rfl,hF2,f2,t2,dp2,tr2,hdm2,hf2,hd2,hd3,hd4⟩);go_meet;have hn:=HN.out;exact⟨_,f2,t2,dp2,tr2,rfl,by omega,by omega,by omega,by omega,hf2,Z (HFr.trans hF2),Z hdm2⟩
     ·go_wp2_with fail;go_meet;exact⟨e-1,f,t,dp',tr',rfl,by omega,by omega,by omega,by omega,hf0,HFr,HDM⟩
    case rest=>
     obtain⟨e,f,t,dp',tr',rfl,he0,he1,hd0,hd1,hf0,HFr,HDM⟩:=hcut;obtain⟨-,i0,i1,i2,-⟩:=HI.fr HFr.out;obtain⟨-,-,g2,-⟩:=HDM.facts;by_cases hbig:e- (-1023)≥2047
     ·have hbig':e+1023≥2047:=by omega
      go_wp2_with fail;go_region;go_wp2_with fail;go_step3;refine Exists.intro _ ⟨rfl,?_⟩;go_wp2_with fail;go_region;go_wp2_with fail;go_step3;go_wp2_with fail;go_region;go_wp2_with fail;rw[Exit.noGoto_ret];exact qh (results_tmp2 results179 _ _ _) rfl ⟨⟨_,_,rfl⟩,HFr.drew.drew.drew⟩
     ·have hbig':¬e+1023≥2047:=by omega
      clear g2;go_wp2_with fail;go_region;clear i0 i1 i2;obtain⟨-,i0,i1,i2,-⟩:=HI.fr HFr.drew;go_wp2_with first
       |(go_at_call 198;refine(ef b 53 f t dp' tr' _ hf0 (by decide) (by decide) (by omega) (by omega) HDM.drew (HC.fr HFr.drew)).mono ?_;rintro e w2 ⟨rfl,hF2,f2,t2,dp2,tr2,hdm2,hf2,hd2,hd3,hd4⟩;obtain⟨-,j0,j1,j2,-⟩:=HI.fr (HFr.drew.trans hF2))
       |(go_at_call 199;refine(iW b _ _ _ _ hdm2).mono ?_;rintro e w3 ⟨⟨u,rfl⟩,k3⟩;obtain⟨-,k0,k1,k2,-⟩:=HI.fr ((HFr.drew.trans hF2).keep k3);obtain⟨-,-,kn,-⟩:=(hdm2.keep k3).facts)
      all_goals
       first
       |(go_step3
         refine Exists.intro _ ⟨rfl,?_⟩;go_wp2_with fail;go_region;go_wp2_with fail;rw[Exit.noGoto_ret];exact qh (results_tmp2 results179 _ _ _) rfl ⟨⟨_,_,rfl⟩,((HFr.drew.trans hF2).keep k3).drew⟩)
       |(go_region
         go_wp2_with fail
         all_goals
          first
          |(go_step3
            refine Exists.intro _ ⟨rfl,?_⟩;go_wp2_with fail;go_region;go_wp2_with fail;rw[Exit.noGoto_ret];exact qh (results_tmp2 results179 _ _ _) rfl ⟨⟨_,_,rfl⟩,((HFr.drew.trans hF2).keep k3).drew.drew⟩)
          |(go_step3
            refine Exists.intro _ ⟨rfl,?_⟩;go_wp2_with fail;go_region;go_wp2_with fail;go_step3;go_wp2_with fail;go_region;go_wp2_with fail;rw[Exit.noGoto_ret];exact qh (results_tmp2 results179 _ _ _) rfl ⟨⟨_,_,rfl⟩,((HFr.drew.trans hF2).keep k3).drew.drew.drew⟩))
end Go.Proofs.YtnclklfhjbkjhaaGreatDoor
