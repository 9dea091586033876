/- Part of the proof: E0 F0 F1 F2 F3 F4 F5 F8. -/
import Derived.Test.YtnclklfhjbkjhaaGreatDoorAa
import Derived.IntWalk
import Derived.Deep.DeepCutAuto
import Derived.Deep.CutRange
import Derived.Deep.CutBlock
set_option maxRecDepth 1000000
set_option maxHeartbeats 40000000
namespace Go.Proofs.YtnclklfhjbkjhaaGreatDoor
open Tryz
open Go.RowKit
def d_(lx rr:Nat)(p pv:Ps)(w:World):Prop:=w.heap[lx]? =some (.cells #[.pointer (some ⟨rr,0,none⟩),.int .i64 p.ln,.int .i64 p.cl,.int .i64 pv.ln,.int .i64 pv.cl] 99 (0,0))
def PsOk(n:Nat)(p:Ps):Prop:=0≤p.ln∧p.ln≤n∧0≤p.cl∧p.cl≤8*n
theorem bi{n:Nat}{p:Ps}(c:Int)(h:PsOk n p):PsOk (n+1) (aC p c):=by
 obtain⟨h1,h2,h3,h4⟩:=h;have e:p.cl.tmod 8=p.cl%8:=Int.tmod_eq_emod_of_nonneg h3;unfold aC;split
 ·exact⟨by simp only;omega,by simp only;omega,by simp,by simp only;omega⟩
 ·split
  ·refine⟨h1,by simp only;omega,?_,?_⟩<;>simp only<;>rw[e]<;>omega
  ·exact⟨h1,by simp only;omega,by simp only;omega,by simp only;omega⟩
theorem oR(lx rr:Nat)(p pv:Ps)(c:Int)(w:World)(h:d_ lx rr p pv w)(n:Nat)(hn:n≤1000000)(hp:PsOk n p):
  Calls prog 64 #[.pointer (some ⟨lx,0,none⟩),.int .i32 c] w fun e w'=>e= .returned (.tuple #[])∧d_ lx rr (aC p c) pv w'∧Fr (· =lx) w w':=by
 have b:=af h;have c1:w.cell? ⟨lx,1,none⟩=some (.int .i64 p.ln):=ab h 1;have c2:w.cell? ⟨lx,2,none⟩=some (.int .i64 p.cl):=ab h 2;have f1:w.frozen? ⟨lx,1,none⟩=false:=ae h 1;have f2:w.frozen? ⟨lx,2,none⟩=false:=ae h 2;obtain⟨h1,h2,h3,h4⟩:=hp;have HB:=Z h;clear h;obtain⟨a,d⟩:=p;simp only at h1 h2 h3 h4 c1 c2;have hw1:wrap64 (a+1)=a+1:=by unfold wrap64;omega
 have hw2:wrap64 (d+1)=d+1:=by unfold wrap64;omega
 by_cases hc:c=10
 ·have hq:(c==10)=true:=by simp[hc]
  go_enter func64,ntmps64;go_wp2_with fail;refine bodyPost_end (results_none rfl _ _ _) rfl ?_;refine⟨rfl,?_,Fr.setIn (S:=(· =lx)) (p:=⟨lx,2,none⟩) (Fr.setIn (S:=(· =lx)) (p:=⟨lx,1,none⟩) (Fr.refl w) _ rfl) _ rfl⟩;unfold d_ aC;rw[if_pos hc,ag (ag HB.out _ _)];rfl
 ·have hq:(c==10)=false:=by simp[hc]
  by_cases ht:c=9
  ·have hq2:(c==9)=true:=by simp[ht]
   have ht8:d.tmod 8=d%8:=Int.tmod_eq_emod_of_nonneg h3;have hm:0≤d%8∧d%8<8:=by omega
   obtain⟨m,hmm⟩:∃m,d.tmod 8=m:=⟨_,rfl⟩;have hm2:0≤m∧m<8:=by rw[←hmm,ht8];exact hm
   obtain⟨hm3,hm4⟩:=hm2;have hr:IntKind.i64.wrap m=m:=IntWalk.i64_in _ (by omega);have hw3:IntKind.i64.wrap (8-m)=8-m:=IntWalk.i64_in _ (by omega);have hw4:IntKind.i64.wrap (d+(8-m))=d+(8-m):=IntWalk.i64_in _ (by omega);clear hm ht8;go_enter func64,ntmps64;go_wp2_with fail;go_region;go_wp2_with fail;refine bodyPost_end (results_none rfl _ _ _) rfl ?_;refine⟨rfl,?_,(Fr.setIn (S:=(· =lx)) (p:=⟨lx,2,none⟩) (Fr.refl w) _ rfl).drew⟩;unfold d_ aC;rw[if_neg hc,if_pos ht];show(w.setCell ⟨lx,2,none⟩ (.int .i64 (d+(8-m)))).heap[lx]? =_;rw[ag HB.out,←hmm];rfl
  ·have hq2:(c==9)=false:=by simp[ht]
   go_enter func64,ntmps64;go_wp2_with fail;refine bodyPost_end (results_none rfl _ _ _) rfl ?_;refine⟨rfl,?_,Fr.setIn (S:=(· =lx)) (p:=⟨lx,2,none⟩) (Fr.refl w) _ rfl⟩;unfold d_ aC;rw[if_neg hc,if_neg ht,ag HB.out];rfl
theorem ah(c:Int)(w:World):Calls prog 42 #[.int .u8 c] w fun e w'=>e= .returned (.bool (bB c))∧w=w':=by
 go_enter func42,ntmps42;go_wp2
 all_goals
  go_ret;refine⟨?_,rfl⟩;refine congrArg (fun b=>Ending.returned (Value.bool b)) ?_;rw[Bool.eq_iff_iff];simp only[bB,Bool.or_eq_true,Bool.and_eq_true,beq_iff_eq,decide_eq_true_eq]
  first|omega|(simp;omega)|(subst_vars;decide)
theorem ai(c:Int)(w:World):Calls prog 43 #[.int .u8 c] w fun e w'=>e= .returned (.bool (aV c))∧w=w':=by
 go_enter func43,ntmps43;go_wp2
 all_goals
  go_ret;refine⟨?_,rfl⟩;refine congrArg (fun b=>Ending.returned (Value.bool b)) ?_;rw[Bool.eq_iff_iff];simp only[aV,Bool.and_eq_true,decide_eq_true_eq]
  first|omega|(simp;omega)|(subst_vars;decide)
def LBlk(lb:Nat)(s:ByteArray)(at_ ln bg how:Int)(iv tv:Value)(w:World):Prop:=
 w.heap[lb]? =some (.cells #[.string s,.int .i64 at_,.int .i64 ln,.int .i64 bg,iv,tv,.int .i64 how] 81 (0,0))
theorem LBlk.facts{lb:Nat}{s:ByteArray}{at_ ln bg how:Int}{iv tv:Value}{w:World}(h:LBlk lb s at_ ln bg how iv tv w):
  lb<w.heap.size∧w.cell? ⟨lb,0,none⟩=some (.string s)∧w.cell? ⟨lb,1,none⟩=some (.int .i64 at_)∧w.cell? ⟨lb,2,none⟩=some (.int .i64 ln)∧w.cell? ⟨lb,3,none⟩=some (.int .i64 bg)∧
  w.cell? ⟨lb,4,none⟩=some iv∧w.cell? ⟨lb,5,none⟩=some tv∧w.cell? ⟨lb,6,none⟩=some (.int .i64 how)∧
  w.frozen? ⟨lb,1,none⟩=false∧w.frozen? ⟨lb,2,none⟩=false∧w.frozen? ⟨lb,3,none⟩=false∧w.frozen? ⟨lb,4,none⟩=false∧w.frozen? ⟨lb,5,none⟩=false∧w.frozen? ⟨lb,6,none⟩=false:=
 ⟨af h,ab h 0,ab h 1,ab h 2,ab h 3,ab h 4,ab h 5,ab h 6,ae h 1,ae h 2,ae h 3,ae h 4,ae h 5,ae h 6⟩
theorem LBlk.keep{lb:Nat}{s:ByteArray}{at_ ln bg how:Int}{iv tv:Value}{w w':World}(h:LBlk lb s at_ ln bg how iv tv w)(k:Keep w w'):LBlk lb s at_ ln bg how iv tv w':=k.blk h
theorem Fr.drewNf{S:Nat→Prop}{a w:World}(h:Fr S a w)(n:Nat):Fr S a (w.drewN n):=⟨h.os,h.tape,h.output,h.size,h.block⟩
def br:Value→Nat
 | .int _ z=>z.toNat
 |_=>0
theorem eX(lb:Nat)(s:ByteArray)(hs:s.size≤100000)(a n:Nat)(ln bg how:Int)(iv tv:Value)(w:World)(h:LBlk lb s a ln bg how iv tv w)(hn:a+n≤s.size)(h1:0≤ln∧ln≤a+1):
  Calls prog 39 #[.pointer (some ⟨lb,0,none⟩),.int .i64 n] w fun e w'=>e= .returned (.tuple #[])∧Fr (· =lb) w w'∧∃ln' bg':Int,LBlk lb s ((a+n:Nat):Int) ln' bg' how iv tv w'∧0≤ln'∧ln'≤a+n+1:=by
 have H:=Z h;clear h;go_enter func39,ntmps39;go_wp2_with fail;go_loopw [5] (fun u wr=>∃ (k:Nat) (ln' bg':Int),u= .int .i64 k∧Hid (LBlk lb s ((a+k:Nat):Int) ln' bg' how iv tv wr∧Fr (· =lb) w wr∧k≤n∧0≤ln'∧ln'≤a+k+1)) (fun u _=>n-br u)
 case atStart=>exact⟨0,ln,bg,rfl,Z ⟨H,Fr.refl w,Nat.zero_le _,h1.1,by omega⟩⟩
 case round=>
  obtain⟨k,ln',bg',rfl,HR⟩:=hrel;obtain⟨b,c0,c1,c2,c3,-,-,-,f1,f2,f3,-,-,-⟩:=HR.1.facts;by_cases hk:k<n
  ·have hkz:(k:Int) < (n:Int):=by omega
   have hi0:(0:Int)≤((a+k:Nat):Int):=by omega
   have hi1:((a+k:Nat):Int) < (s.size:Int):=by omega
   have hlz:0≤ln'∧ln'≤200000:=by have:=HR.2.2.2;omega
   obtain⟨hl0,hl1⟩:=hlz;obtain⟨m,hm⟩:∃m,a+k=m:=⟨_,rfl⟩;have HM:=Z hm;rw[hm] at hi0 hi1 c1;have hw1:IntKind.i64.wrap (ln'+1)=ln'+1:=IntWalk.i64_in _ (by omega);have hw2:IntKind.i64.wrap ((m:Int)+1)=(m:Int)+1:=IntWalk.i64_in _ (by omega);clear hm;go_wp2_with fail;go_quiet (fail);go_wp2_with fail
   ·rename_i hb;clear hb;go_region;go_wp2_with fail;go_roundw
    case rel=>
     refine⟨k+1,ln'+1,(m:Int)+1,by simp,Z ⟨?_,?_,by omega,by have:=HR.2.2.2;omega,by have:=HR.2.2.2;omega⟩⟩
     ·have e:((a+(k+1):Nat):Int)=(m:Int)+1:=by have:=HM.out;omega
      unfold LBlk;rw[e,ag (ag (ag (HR.1.keep ((Fr.refl wr).drewNf (nq+1))) _ _) _ _)];rfl
     ·exact Fr.setIn (S:=(· =lb)) (p:=⟨lb,1,none⟩) (Fr.setIn (S:=(· =lb)) (p:=⟨lb,3,none⟩) (Fr.setIn (S:=(· =lb)) (p:=⟨lb,2,none⟩) (HR.2.1.drewNf (nq+1)) _ rfl) _ rfl) _ rfl
    case measure=>simp only[br];omega
   ·go_roundw
    case rel=>
     refine⟨k+1,ln',bg',by simp,Z ⟨?_,?_,by omega,by have:=HR.2.2.2;omega,by have:=HR.2.2.2;omega⟩⟩
     ·have e:((a+(k+1):Nat):Int)=(m:Int)+1:=by have:=HM.out;omega
      unfold LBlk;rw[e,ag (HR.1.keep ((Fr.refl wr).drewNf nq))];rfl
     ·exact(HR.2.1.drewNf nq).setIn _ rfl
    case measure=>simp only[br];omega
  ·have hkz:¬ (k:Int) < (n:Int):=by omega
   have hkn:k=n:=by have:=HR.2.2.1;omega
   subst hkn;go_wp2_with fail;refine bodyPost_end (results_none rfl _ _ _) rfl ?_;exact⟨rfl,HR.2.1,ln',⟨bg',by rw[←Int.natCast_add];exact HR.1⟩,HR.2.2.2.1,by have:=HR.2.2.2.2;omega⟩
def tx(s:ByteArray)(i:Nat):List Int:=(s.toList.drop i).map fun b=>(b.toNat:Int)
def bz(s:ByteArray)(i:Nat):Int:=((s.toList.getD i 0).toNat:Int)
theorem aL{s:ByteArray}{i:Nat}(h:i<s.size):tx s i=bz s i::tx s (i+1):=by
 have hl:i<s.toList.length:=by rw[qi];exact h
 unfold tx bz;rw[List.drop_eq_getElem_cons hl,List.map_cons,List.getD_eq_getElem?_getD,List.getElem?_eq_getElem hl];rfl
theorem qV(lb:Nat)(s:ByteArray)(hs:s.size≤100000)(a:Nat)(ln bg how:Int)(iv tv:Value)(w:World)(h:LBlk lb s a ln bg how iv tv w)(ha:a≤s.size)(h1:0≤ln∧ln≤a+1):
  Calls prog 19 #[.pointer (some ⟨lb,0,none⟩)] w fun e w'=>(∃t:ByteArray,e= .returned (.string t)∧t.size≤100000)∧Fr (· =lb) w w'∧∃ (a':Nat) (ln' bg':Int),LBlk lb s a' ln' bg' how iv tv w'∧a≤a'∧a'≤s.size∧0≤ln'∧ln'≤a'+1∧(∀ts,LR (tx s a') ts→LR (tx s a) ts)∧
   (a'<s.size→¬ (bz s a'=32∨bz s a'=9∨bz s a'=10∨bz s a'=13)):=by
 have H:=Z h;obtain⟨b,c0,c1,c2,c3,-,-,-,f1,f2,f3,-,-,-⟩:=h.facts;clear h;go_enter func19,ntmps19;go_wp2_with fail;go_loopw [] (fun wr=>∃ (m:Nat) (ln' bg':Int),Hid (LBlk lb s m ln' bg' how iv tv wr∧Fr (· =lb) w wr∧a≤m∧m≤s.size∧0≤ln'∧ln'≤m+1∧(∀ts,LR (tx s m) ts→LR (tx s a) ts))) (fun wr=>s.size- (match wr.cell? ⟨lb,1,none⟩ with|some v=>br v|none=>0))
 case atStart=>exact⟨a,ln,bg,Z ⟨H,Fr.refl w,Nat.le_refl _,ha,h1.1,h1.2,fun _ h=>h⟩⟩
 case round=>
  obtain⟨m,ln',bg',HR⟩:=hrel;clear b c0 c1 c2 c3 f1 f2 f3;obtain⟨b,c0,c1,c2,c3,-,-,-,f1,f2,f3,-,-,-⟩:=HR.1.facts;have ham:(a:Int)≤(m:Int):=by have:=HR.2.2.1;omega
  have hms:(m:Int)≤(s.size:Int):=by have:=HR.2.2.2.1;omega
  by_cases hm:m<s.size
  ·have hmz:(m:Int) < (s.size:Int):=by omega
   have hbz:bz s m=((s[m]'hm).toNat:Int):=by
    unfold bz;rw[List.getD_eq_getElem?_getD,List.getElem?_eq_getElem (by rw[qi];exact hm)];simp only[Option.getD_some,qi];rfl
   by_cases hb:((s[m]'hm).toNat:Int)=32∨((s[m]'hm).toNat:Int)=9∨((s[m]'hm).toNat:Int)=10∨((s[m]'hm).toNat:Int)=13
   ·rcases hb with hb|hb|hb|hb
    ·have e:((s[m]'hm).toNat:Int)=32:=hb;have q32:(((s[m]'hm).toNat:Int) ==32)=true:=by rw[e];rfl
     have q9:(((s[m]'hm).toNat:Int) ==9)=false:=by rw[e];rfl
     have q10:(((s[m]'hm).toNat:Int) ==10)=false:=by rw[e];rfl
     have q13:(((s[m]'hm).toNat:Int) ==13)=false:=by rw[e];rfl
     go_wp2_with fail;go_quiet (fail);go_wp2_with fail;go_quiet (fail);go_wp2_with fail;refine(eX lb s hs m 1 ln' bg' how iv tv _ (HR.1.keep ((Fr.refl wr).drewNf _)) (by omega) ⟨HR.2.2.2.2.1,HR.2.2.2.2.2.1⟩).mono ?_;rintro e' w3 ⟨rfl,f3,ln3,bg3,h3,h4,h5⟩;have H3:=Z h3;have F3:=Z ((HR.2.1.drewNf _).trans f3);clear h3 f3;go_wp2_with fail;go_roundw
     case rel=>
      refine⟨m+1,ln3,bg3,Z ⟨H3,F3,by have:=HR.2.2.1;omega,by omega,h4,by omega,fun ts ht=>HR.2.2.2.2.2.2 ts ?_⟩⟩;rw[aL hm,hbz,e];exact LR.blank (by decide) ht
     case measure=>
      have e1:wr.cell? ⟨lb,1,none⟩=some (.int .i64 m):=ab HR.1 1;have e2:w3.cell? ⟨lb,1,none⟩=some (.int .i64 ((m+1:Nat):Int)):=ab H3 1;rw[e1,e2];simp only[br];omega
    ·have e:((s[m]'hm).toNat:Int)=9:=hb;have q32:(((s[m]'hm).toNat:Int) ==32)=false:=by rw[e];rfl
     have q9:(((s[m]'hm).toNat:Int) ==9)=true:=by rw[e];rfl
     have q10:(((s[m]'hm).toNat:Int) ==10)=false:=by rw[e];rfl
     have q13:(((s[m]'hm).toNat:Int) ==13)=false:=by rw[e];rfl
     go_wp2_with fail;go_quiet (fail);go_wp2_with fail;go_quiet (fail);go_wp2_with fail;refine(eX lb s hs m 1 ln' bg' how iv tv _ (HR.1.keep ((Fr.refl wr).drewNf _)) (by omega) ⟨HR.2.2.2.2.1,HR.2.2.2.2.2.1⟩).mono ?_;rintro e' w3 ⟨rfl,f3,ln3,bg3,h3,h4,h5⟩;have H3:=Z h3;have F3:=Z ((HR.2.1.drewNf _).trans f3);clear h3 f3;go_wp2_with fail;go_roundw
     case rel=>
      refine⟨m+1,ln3,bg3,Z ⟨H3,F3,by have:=HR.2.2.1;omega,by omega,h4,by omega,fun ts ht=>HR.2.2.2.2.2.2 ts ?_⟩⟩;rw[aL hm,hbz,e];exact LR.blank (by decide) ht
     case measure=>
      have e1:wr.cell? ⟨lb,1,none⟩=some (.int .i64 m):=ab HR.1 1;have e2:w3.cell? ⟨lb,1,none⟩=some (.int .i64 ((m+1:Nat):Int)):=ab H3 1;rw[e1,e2];simp only[br];omega
    ·have e:((s[m]'hm).toNat:Int)=10:=hb;have q32:(((s[m]'hm).toNat:Int) ==32)=false:=by rw[e];rfl
     have q9:(((s[m]'hm).toNat:Int) ==9)=false:=by rw[e];rfl
     have q10:(((s[m]'hm).toNat:Int) ==10)=true:=by rw[e];rfl
     have q13:(((s[m]'hm).toNat:Int) ==13)=false:=by rw[e];rfl
     go_wp2_with fail;go_quiet (fail);go_wp2_with fail;go_quiet (fail);go_wp2_with fail;refine(eX lb s hs m 1 ln' bg' how iv tv _ (HR.1.keep ((Fr.refl wr).drewNf _)) (by omega) ⟨HR.2.2.2.2.1,HR.2.2.2.2.2.1⟩).mono ?_;rintro e' w3 ⟨rfl,f3,ln3,bg3,h3,h4,h5⟩;have H3:=Z h3;have F3:=Z ((HR.2.1.drewNf _).trans f3);clear h3 f3;go_wp2_with fail;go_roundw
     case rel=>
      refine⟨m+1,ln3,bg3,Z ⟨H3,F3,by have:=HR.2.2.1;omega,by omega,h4,by omega,fun ts ht=>HR.2.2.2.2.2.2 ts ?_⟩⟩;rw[aL hm,hbz,e];exact LR.blank (by decide) ht
     case measure=>
      have e1:wr.cell? ⟨lb,1,none⟩=some (.int .i64 m):=ab HR.1 1;have e2:w3.cell? ⟨lb,1,none⟩=some (.int .i64 ((m+1:Nat):Int)):=ab H3 1;rw[e1,e2];simp only[br];omega
    ·have e:((s[m]'hm).toNat:Int)=13:=hb;have q32:(((s[m]'hm).toNat:Int) ==32)=false:=by rw[e];rfl
     have q9:(((s[m]'hm).toNat:Int) ==9)=false:=by rw[e];rfl
     have q10:(((s[m]'hm).toNat:Int) ==10)=false:=by rw[e];rfl
     have q13:(((s[m]'hm).toNat:Int) ==13)=true:=by rw[e];rfl
     go_wp2_with fail;go_quiet (fail);go_wp2_with fail;go_quiet (fail);go_wp2_with fail;refine(eX lb s hs m 1 ln' bg' how iv tv _ (HR.1.keep ((Fr.refl wr).drewNf _)) (by omega) ⟨HR.2.2.2.2.1,HR.2.2.2.2.2.1⟩).mono ?_;rintro e' w3 ⟨rfl,f3,ln3,bg3,h3,h4,h5⟩;have H3:=Z h3;have F3:=Z ((HR.2.1.drewNf _).trans f3);clear h3 f3;go_wp2_with fail;go_roundw
     case rel=>
      refine⟨m+1,ln3,bg3,Z ⟨H3,F3,by have:=HR.2.2.1;omega,by omega,h4,by omega,fun ts ht=>HR.2.2.2.2.2.2 ts ?_⟩⟩;rw[aL hm,hbz,e];exact LR.blank (by decide) ht
     case measure=>
      have e1:wr.cell? ⟨lb,1,none⟩=some (.int .i64 m):=ab HR.1 1;have e2:w3.cell? ⟨lb,1,none⟩=some (.int .i64 ((m+1:Nat):Int)):=ab H3 1;rw[e1,e2];simp only[br];omega
   ·have HBN:=Z hb;have q32:(((s[m]'hm).toNat:Int) ==32)=false:=by simp;omega
    have q9:(((s[m]'hm).toNat:Int) ==9)=false:=by simp;omega
    have q10:(((s[m]'hm).toNat:Int) ==10)=false:=by simp;omega
    have q13:(((s[m]'hm).toNat:Int) ==13)=false:=by simp;omega
    clear hb;go_wp2_with fail;go_quiet (fail);go_wp2_with fail;go_quiet (fail);go_wp2_with fail;go_quiet (fail);go_wp2_with fail;go_ret;refine⟨⟨_,rfl,?_⟩,(HR.2.1.drewNf _).drewNf _,m,ln',bg',HR.1.keep (((Fr.refl wr).drewNf _).drewNf _),HR.2.2.1,HR.2.2.2.1,HR.2.2.2.2.1,HR.2.2.2.2.2.1,HR.2.2.2.2.2.2,fun _=>by rw[hbz];exact HBN.out⟩;rw[qo];omega
  ·have hmz:¬ (m:Int) < (s.size:Int):=by omega
   go_wp2_with fail;go_quiet (fail);go_wp2_with fail;go_quiet (fail);go_wp2_with fail;go_ret;refine⟨⟨_,rfl,?_⟩,(HR.2.1.drewNf _).drewNf _,m,ln',bg',HR.1.keep (((Fr.refl wr).drewNf _).drewNf _),HR.2.2.1,HR.2.2.2.1,HR.2.2.2.2.1,HR.2.2.2.2.2.1,HR.2.2.2.2.2.2,fun h=>absurd h hm⟩;rw[qo];omega
theorem uQ:(prog.info? 141).map (·.size)=some 3:=by kernel_rfl
theorem rI{fn:Func}{p:Tmp}(h:fn.results=#[.cell p 141]){tmps:Array Value}{w:World}{g:Nat}{v0 v1 v2:Value}
  (hg:w.heap[g]? =some (.cells #[v0,v1,v2] 141 (0,0))) (hp:tmps.getD p undef= .pointer (some ⟨g,0,none⟩)):
  (results fn tmps).run prog w= .ok (.agg #[v0,v1,v2]) w:=
 results_cell_row h _ _ g 141 _ (0,0) _ hp hg underlying141 rfl uQ
theorem zc(lb:Nat)(s:ByteArray)(a ln bg how:Int)(iv tv:Value)(w:World)(h:LBlk lb s a ln bg how iv tv w)(ha:0≤a∧a≤100000)(hb:0≤bg∧bg≤100001):
  Calls prog 76 #[.pointer (some ⟨lb,0,none⟩)] w fun e w'=>(∃x y z:Int,e= .returned (.agg #[.int .i64 x,.int .i64 y,.int .i64 z]))∧Keep w w':=by
 obtain⟨b,c0,c1,c2,c3,-,-,-,f1,f2,f3,-,-,-⟩:=h.facts;clear h;obtain⟨a1,a2⟩:=ha;obtain⟨g1,g2⟩:=hb;have hw1:IntKind.i64.wrap (a-bg)=a-bg:=IntWalk.i64_in _ (by omega);have hw2:IntKind.i64.wrap (a-bg+1)=a-bg+1:=IntWalk.i64_in _ (by omega);go_enter func76,ntmps76;go_wp2_with fail;go_region
 all_goals
  go_wp2_with fail;refine qh (rI rfl (show(w.alloc _).heap[w.heap.size]? =_ from ql w _) rfl) rfl ?_;exact⟨⟨_,_,_,rfl⟩,((Fr.refl w).alloc _).drew⟩
def dg(c:Int):Int:=if aV c then c-48 else if 97≤c∧c≤102 then c-87 else if 65≤c∧c≤70 then c-55 else 99
theorem aq{s:ByteArray}{m:Nat}(hm:m<s.size):bz s m=((s[m]'hm).toNat:Int):=by
 unfold bz;rw[List.getD_eq_getElem?_getD,List.getElem?_eq_getElem (by rw[qi];exact hm)];simp only[Option.getD_some,qi];rfl
def cz(b:Int)(s:ByteArray):Bool:=decide (∀i,i<s.size→dg (bz s i) <b) &&decide (0<s.size)
theorem aJ(s:ByteArray)(b:Int)(w:World)(hs:s.size≤100000):
  Calls prog 106 #[.string s,.int .i64 b] w fun e w'=>e= .returned (.bool (cz b s))∧w=w':=by
 go_enter func106,ntmps106;go_wp2_with fail;go_loopw [10] (fun u wr=>∃k:Nat,u= .int .i64 k∧wr=w∧k≤s.size∧∀i,i<k→dg (bz s i) <b) (fun u _=>s.size-br u)
 case atStart=>exact⟨0,rfl,rfl,Nat.zero_le _,fun i hi=>by omega⟩
 case round=>
  obtain⟨k,rfl,rfl,hk,hall⟩:=hrel;have HA:=Z hall;clear hall;by_cases hm:k<s.size
  ·have hmz:(k:Int) < (s.size:Int):=by omega
   have hbz:=aq hm;have HBZ:=Z hbz;have h0:(0:Int)≤((s[k]'hm).toNat:Int):=by omega
   have h1:((s[k]'hm).toNat:Int) <256:=by have:=(s[k]'hm).toNat_lt;omega
   clear hbz;cases hd:aV ((s[k]'hm).toNat:Int)
   ·by_cases hl:97≤((s[k]'hm).toNat:Int)∧((s[k]'hm).toNat:Int)≤102
    ·have e97:(((s[k]'hm).toNat:Int) -97) %256=((s[k]'hm).toNat:Int) -97:=by omega
     have hq1:decide (97≤((s[k]'hm).toNat:Int))=true:=by simp;omega
     have hq2:decide (((s[k]'hm).toNat:Int)≤102)=true:=by simp;omega
     have hdv:dg (bz s k)=((s[k]'hm).toNat:Int) -97+10:=by
      rw[HBZ.out];unfold dg;rw[if_neg (by rw[hd];decide),if_pos hl];omega
     have hxb:0≤(((s[k]'hm).toNat:Int) -97+10)∧(((s[k]'hm).toNat:Int) -97+10)≤99:=by omega
     obtain⟨hx0,hx1⟩:=hxb;by_cases hlt:(((s[k]'hm).toNat:Int) -97+10) <b
     ·have hge:¬ (((s[k]'hm).toNat:Int) -97+10)≥b:=by omega
      go_wp2_with fail;refine(ai _ _).mono ?_;rintro e w' ⟨rfl,rfl⟩;rw[hd];go_wp2_with fail
      all_goals
       go_roundw
       case rel=>exact⟨k+1,by simp,by trivial,by omega,fun i hi=>by
        rcases Nat.lt_or_ge i k with h|h
        ·exact HA i h
        ·rw[show i=k from by omega,hdv];exact hlt⟩
       case measure=>simp only[br];omega
     ·have hge:(((s[k]'hm).toNat:Int) -97+10)≥b:=by omega
      go_wp2_with fail;refine(ai _ _).mono ?_;rintro e w' ⟨rfl,rfl⟩;rw[hd];go_wp2_with fail
      all_goals
       go_ret;refine⟨?_,rfl⟩;refine congrArg (fun b=>Ending.returned (Value.bool b)) ?_
       symm
       unfold cz;rw[Bool.and_eq_false_iff];exact .inl (decide_eq_false fun h=>absurd (h k hm) (by rw[hdv];omega))
    ·by_cases hu:65≤((s[k]'hm).toNat:Int)∧((s[k]'hm).toNat:Int)≤70
     ·have e65:(((s[k]'hm).toNat:Int) -65) %256=((s[k]'hm).toNat:Int) -65:=by omega
      have hq1:¬ (97≤((s[k]'hm).toNat:Int)∧((s[k]'hm).toNat:Int)≤102):=hl;have hq3:¬97≤((s[k]'hm).toNat:Int):=by omega
      have hdv:dg (bz s k)=((s[k]'hm).toNat:Int) -65+10:=by
       rw[HBZ.out];unfold dg;rw[if_neg (by rw[hd];decide),if_neg hl,if_pos hu];omega
      have hxb:0≤(((s[k]'hm).toNat:Int) -65+10)∧(((s[k]'hm).toNat:Int) -65+10)≤99:=by omega
      obtain⟨hx0,hx1⟩:=hxb;by_cases hlt:(((s[k]'hm).toNat:Int) -65+10) <b
      ·have hge:¬ (((s[k]'hm).toNat:Int) -65+10)≥b:=by omega
       go_wp2_with fail;refine(ai _ _).mono ?_;rintro e w' ⟨rfl,rfl⟩;rw[hd];go_wp2_with fail
       all_goals
        go_roundw
        case rel=>exact⟨k+1,by simp,by trivial,by omega,fun i hi=>by
         rcases Nat.lt_or_ge i k with h|h
         ·exact HA i h
         ·rw[show i=k from by omega,hdv];exact hlt⟩
        case measure=>simp only[br];omega
      ·have hge:(((s[k]'hm).toNat:Int) -65+10)≥b:=by omega
       go_wp2_with fail;refine(ai _ _).mono ?_;rintro e w' ⟨rfl,rfl⟩;rw[hd];go_wp2_with fail
       all_goals
        go_ret;refine⟨?_,rfl⟩;refine congrArg (fun b=>Ending.returned (Value.bool b)) ?_
        symm
        unfold cz;rw[Bool.and_eq_false_iff];exact .inl (decide_eq_false fun h=>absurd (h k hm) (by rw[hdv];omega))
     ·have hdv:dg (bz s k)=99:=by
       rw[HBZ.out];unfold dg;rw[if_neg (by rw[hd];decide),if_neg hl,if_neg hu]
      have hxb:0≤(99)∧(99)≤99:=by omega
      obtain⟨hx0,hx1⟩:=hxb;by_cases hlt:(99) <b
      ·have hge:¬ (99)≥b:=by omega
       go_wp2_with fail;refine(ai _ _).mono ?_;rintro e w' ⟨rfl,rfl⟩;rw[hd];go_wp2_with fail
       all_goals
        go_roundw
        case rel=>exact⟨k+1,by simp,by trivial,by omega,fun i hi=>by
         rcases Nat.lt_or_ge i k with h|h
         ·exact HA i h
         ·rw[show i=k from by omega,hdv];exact hlt⟩
        case measure=>simp only[br];omega
      ·have hge:(99)≥b:=by omega
       go_wp2_with fail;refine(ai _ _).mono ?_;rintro e w' ⟨rfl,rfl⟩;rw[hd];go_wp2_with fail
       all_goals
        go_ret;refine⟨?_,rfl⟩;refine congrArg (fun b=>Ending.returned (Value.bool b)) ?_
        symm
        unfold cz;rw[Bool.and_eq_false_iff];exact .inl (decide_eq_false fun h=>absurd (h k hm) (by rw[hdv];omega))
   ·have hr:=cR hd;have e48:(((s[k]'hm).toNat:Int) -48) %256=((s[k]'hm).toNat:Int) -48:=by omega
    have hdv:dg (bz s k)=((s[k]'hm).toNat:Int) -48:=by
     rw[HBZ.out];unfold dg;rw[if_pos hd]
    have hxb:0≤(((s[k]'hm).toNat:Int) -48)∧(((s[k]'hm).toNat:Int) -48)≤99:=by omega
    obtain⟨hx0,hx1⟩:=hxb;by_cases hlt:(((s[k]'hm).toNat:Int) -48) <b
    ·have hge:¬ (((s[k]'hm).toNat:Int) -48)≥b:=by omega
     go_wp2_with fail;refine(ai _ _).mono ?_;rintro e w' ⟨rfl,rfl⟩;rw[hd];go_wp2_with fail
     all_goals
      go_roundw
      case rel=>exact⟨k+1,by simp,by trivial,by omega,fun i hi=>by
       rcases Nat.lt_or_ge i k with h|h
       ·exact HA i h
       ·rw[show i=k from by omega,hdv];exact hlt⟩
      case measure=>simp only[br];omega
    ·have hge:(((s[k]'hm).toNat:Int) -48)≥b:=by omega
     go_wp2_with fail;refine(ai _ _).mono ?_;rintro e w' ⟨rfl,rfl⟩;rw[hd];go_wp2_with fail
     all_goals
      go_ret;refine⟨?_,rfl⟩;refine congrArg (fun b=>Ending.returned (Value.bool b)) ?_
      symm
      unfold cz;rw[Bool.and_eq_false_iff];exact .inl (decide_eq_false fun h=>absurd (h k hm) (by rw[hdv];omega))
  ·have hmz:¬ (k:Int) < (s.size:Int):=by omega
   have hks:k=s.size:=by omega
   subst hks;go_wp2_with fail;go_ret;refine⟨?_,rfl⟩;refine congrArg (fun b=>Ending.returned (Value.bool b)) ?_;unfold cz;rw[decide_eq_true HA.out,Bool.true_and]
theorem pT(lb:Nat)(s:ByteArray)(a ln bg how x:Int)(iv tv:Value)(w:World)(h:LBlk lb s a ln bg how iv tv w):
  Calls prog 46 #[.pointer (some ⟨lb,0,none⟩),.int .i64 x] w fun e w'=>e= .returned (.tuple #[])∧Fr (· =lb) w w'∧LBlk lb s a ln bg (if how=0 then x else how) iv tv w':=by
 have H:=Z h;obtain⟨b,c0,c1,c2,c3,-,-,c6,-,-,-,-,-,f6⟩:=h.facts;clear h;by_cases hh:how=0
 ·have q:(how==0)=true:=by simp[hh]
  rw[if_pos hh];go_enter func46,ntmps46;go_wp2_with fail;refine bodyPost_end (results_none rfl _ _ _) rfl ?_;refine⟨rfl,(Fr.refl w).setIn _ rfl,?_⟩;unfold LBlk;rw[ag H.out];rfl
 ·have q:(how==0)=false:=by simp[hh]
  rw[if_neg hh];go_enter func46,ntmps46;go_wp2_with fail;refine bodyPost_end (results_none rfl _ _ _) rfl ?_;exact⟨rfl,Fr.refl w,H⟩
def oc(c:Int):Bool:=aV c||c==46||c==101||c==69||c==43||c==45
def RealOk(s:ByteArray):Prop:=(∀j,j<s.size→oc (bz s j)=true)∧0<s.size∧(aV (bz s 0)=true∨bz s 0=46)
theorem xB{s:ByteArray}{a j:Nat}(h:a+j<s.size):bz (s.extract a s.size) j=bz s (a+j):=by
 have h2:j< (s.extract a s.size).size:=by rw[qo];omega
 rw[aq h2,aq h,ByteArray.getElem_extract]
theorem RealOk.num{s:ByteArray}{j:Nat}(h:∀x,x<j→aV (bz s x)=true∨bz s x=46)(h0:0<j)(hj:j=s.size):RealOk s:=by
 subst hj;refine⟨fun x hx=>?_,h0,h 0 h0⟩;rcases h x hx with e|e
 ·simp[oc,e]
 ·simp[oc,e]
theorem RealOk.exp{s:ByteArray}{j i:Nat}(h:∀x,x<j→aV (bz s x)=true∨bz s x=46)(h0:0<j)(hj:j<s.size)(he:bz s j=101∨bz s j=69)(hi:i=j+1∨(i=j+2∧(bz s (j+1)=43∨bz s (j+1)=45)))(ha:cz 10 (s.extract i s.size)=true):RealOk s:=by
 refine⟨fun x hx=>?_,by omega,h 0 h0⟩;by_cases h1:x<j
 ·rcases h x h1 with e|e<;>simp[oc,e]
 by_cases h2:x=j
 ·subst h2;rcases he with e|e<;>simp[oc,e]
 by_cases h3:x<i
 ·rcases hi with hi|⟨hi,e⟩
  ·omega
  ·have:x=j+1:=by omega
   subst this;rcases e with e|e<;>simp[oc,e]
 ·unfold cz at ha;rw[Bool.and_eq_true,decide_eq_true_eq,decide_eq_true_eq] at ha;have hh:=ha.1 (x-i) (by rw[qo];omega);rw[xB (by omega),show i+(x-i)=x from by omega] at hh;unfold dg at hh;cases hd:aV (bz s x)
  ·rw[if_neg (by rw[hd];decide)] at hh;split at hh
   ·omega
   ·split at hh
    ·omega
    ·omega
  ·simp[oc,hd]
def tJ(s:ByteArray)(w:World)(e:Ending)(w':World):Prop:=(∃b,e= .returned (.bool b)∧(b=true→RealOk s))∧w=w'
theorem rJ(s:ByteArray)(w:World)(hs:s.size≤100000):
  Calls prog 108 #[.string s] w (tJ s w):=by
 go_enter func108,ntmps108;go_upto_block 0 with fail;go_cut [3,4] (fun si sn wx=>wx=w∧∃j q:Nat,si= .int .i64 j∧sn= .int .i64 q∧Hid (j≤s.size∧q≤j∧(0<q→0<j)∧∀x,x<j→aV (bz s x)=true∨bz s x=46))
 case first=>
  go_wp2_with fail;go_loopw [3,4] (fun si sn wr=>wr=w∧∃k:Nat,si= .int .i64 k∧sn= .int .i64 k∧Hid (k≤s.size∧∀x,x<k→aV (bz s x)=true)) (fun si _ _=>s.size-br si)
  case atStart=>exact⟨rfl,0,rfl,rfl,Z ⟨Nat.zero_le _,fun x hx=>by omega⟩⟩
  case round=>
   obtain⟨rfl,k,rfl,rfl,HR⟩:=hrel;by_cases hm:k<s.size
   ·have hmz:(k:Int) < (s.size:Int):=by omega
    have HBZ:=Z (aq hm);cases hd:aV ((s[k]'hm).toNat:Int)
    ·have HD:=Z hd;clear hd;go_wp2_with (go_at_call 43;refine(ai _ _).mono ?_;rintro e w' ⟨rfl,rfl⟩;rw[HD.out]);go_meet;exact⟨rfl,k,k,rfl,rfl,Z ⟨HR.1,Nat.le_refl _,fun h=>h,fun x hx=> .inl (HR.2 x hx)⟩⟩
    ·have HD:=Z hd;clear hd;go_wp2_with (go_at_call 43;refine(ai _ _).mono ?_;rintro e w' ⟨rfl,rfl⟩;rw[HD.out]);go_roundw
     case rel=>exact⟨by trivial,k+1,by simp,by simp,Z ⟨hm,fun x hx=>by
      rcases Nat.lt_or_ge x k with h|h
      ·exact HR.2 x h
      ·rw[show x=k from by omega,HBZ.out];exact HD.out⟩⟩
     case measure=>simp only[br];omega
   ·have hmz:¬ (k:Int) < (s.size:Int):=by omega
    go_wp2_with fail;go_meet;exact⟨rfl,k,k,rfl,rfl,Z ⟨HR.1,Nat.le_refl _,fun h=>h,fun x hx=> .inl (HR.2 x hx)⟩⟩
 case rest=>
  obtain⟨rfl,j,q,rfl,rfl,HJ⟩:=hcut;go_step;go_step;go_cut [3,4] (fun si sn wx=>wx=wc∧∃j q:Nat,si= .int .i64 j∧sn= .int .i64 q∧Hid (j≤s.size∧q≤j∧(0<q→0<j)∧∀x,x<j→aV (bz s x)=true∨bz s x=46))
  case first=>
   by_cases hm:j<s.size
   ·have hmz:(j:Int) < (s.size:Int):=by omega
    have HBZ:=Z (aq hm);by_cases hdot:((s[j]'hm).toNat:Int)=46
    ·have q46:(((s[j]'hm).toNat:Int) ==46)=true:=by rw[hdot];rfl
     have HDOT:=Z hdot;clear hdot;go_wp2_with fail;go_loopw [3,4] (fun si sn wr=>wr=wc∧∃k q:Nat,si= .int .i64 k∧sn= .int .i64 q∧Hid (j<k∧k≤s.size∧q≤k∧∀x,x<k→aV (bz s x)=true∨bz s x=46)) (fun si _ _=>s.size-br si)
     case atStart=>exact⟨rfl,j+1,q,by simp,rfl,Z ⟨by omega,hm,by have:=HJ.2.1;omega,fun x hx=>by
      rcases Nat.lt_or_ge x j with h|h
      ·exact HJ.2.2.2 x h
      ·rw[show x=j from by omega,HBZ.out];exact .inr HDOT.out⟩⟩
     case round=>
      obtain⟨rfl,k,q,rfl,rfl,HR⟩:=hrel;have hqk:(q:Int)≤(k:Int):=by have:=HR.2.2.1;omega
      by_cases hm:k<s.size
      ·have hmz:(k:Int) < (s.size:Int):=by omega
       have HBZ:=Z (aq hm);cases hd:aV ((s[k]'hm).toNat:Int)
       ·have HD:=Z hd;clear hd;go_wp2_with (go_at_call 43;refine(ai _ _).mono ?_;rintro e w' ⟨rfl,rfl⟩;rw[HD.out]);go_meet;exact⟨rfl,k,q,rfl,rfl,Z ⟨HR.2.1,HR.2.2.1,fun _=>by have:=HR.1;omega,HR.2.2.2⟩⟩
       ·have HD:=Z hd;clear hd;go_wp2_with (go_at_call 43;refine(ai _ _).mono ?_;rintro e w' ⟨rfl,rfl⟩;rw[HD.out]);go_roundw
        case rel=>exact⟨by trivial,k+1,q+1,by simp,by simp,Z ⟨by have:=HR.1;omega,hm,by omega,fun x hx=>by
         rcases Nat.lt_or_ge x k with h|h
         ·exact HR.2.2.2 x h
         ·rw[show x=k from by omega,HBZ.out];exact .inl HD.out⟩⟩
        case measure=>simp only[br];omega
      ·have hmz:¬ (k:Int) < (s.size:Int):=by omega
       go_wp2_with fail;go_meet;exact⟨rfl,k,q,rfl,rfl,Z ⟨HR.2.1,HR.2.2.1,fun _=>by have:=HR.1;omega,HR.2.2.2⟩⟩
    ·have q46:(((s[j]'hm).toNat:Int) ==46)=false:=by simpa using hdot
     clear hdot;go_wp2_with fail;go_meet;exact⟨rfl,j,q,rfl,rfl,HJ⟩
   ·have hmz:¬ (j:Int) < (s.size:Int):=by omega
    go_wp2_with fail;go_meet;exact⟨rfl,j,q,rfl,rfl,HJ⟩
  case rest=>
   obtain⟨rfl,i,n,rfl,rfl,HI⟩:=hcut;clear HJ;have hni:(n:Int)≤(i:Int):=by have:=HI.2.1;omega
   have his:(i:Int)≤(s.size:Int):=by have:=HI.1;omega
   by_cases hn:0<n
   ·have hnz:(n:Int) >0:=by omega
    have hnz':(0:Int) < (n:Int):=by omega
    by_cases hm:i<s.size
    ·have hmz:(i:Int) < (s.size:Int):=by omega
     have hne:((i:Int) == (s.size:Int))=false:=by simp;omega
     have HBZ:=Z (aq hm);by_cases h101:((s[i]'hm).toNat:Int)=101
     ·have q101:(((s[i]'hm).toNat:Int) ==101)=true:=by rw[h101];rfl
      have HE:Hid (((s[i]'hm).toNat:Int)=101∨((s[i]'hm).toNat:Int)=69):=Z (.inl h101);clear h101;by_cases hm2:i+1<s.size
      ·have hmz2:(i:Int)+1< (s.size:Int):=by omega
       have HBZ2:=Z (aq hm2);have hz0:(0:Int)≤(i:Int)+1:=by omega
       have hzi:((i:Int)+1).toNat=i+1:=by omega
       by_cases h43:((s[i+1]'hm2).toNat:Int)=43
       ·have q43:(((s[i+1]'hm2).toNat:Int) ==43)=true:=by rw[h43];rfl
        have HH:=Z h43;clear h43;go_wp2_with (go_at_call 106;refine(aJ _ 10 _ (by rw[qo];omega)).mono ?_;rintro e w' ⟨rfl,rfl⟩);go_ret;refine⟨⟨_,rfl,fun hb=>?_⟩,rfl⟩;exact RealOk.exp HI.2.2.2 (HI.2.2.1 (by omega)) hm (by rw[HBZ.out];exact HE.out) (.inr ⟨rfl,.inl (by rw[HBZ2.out];exact HH.out)⟩) hb
       ·have q43:(((s[i+1]'hm2).toNat:Int) ==43)=false:=by simpa using h43
        clear h43;by_cases h45:((s[i+1]'hm2).toNat:Int)=45
        ·have q45:(((s[i+1]'hm2).toNat:Int) ==45)=true:=by rw[h45];rfl
         have HH:=Z h45;clear h45;go_wp2_with (go_at_call 106;refine(aJ _ 10 _ (by rw[qo];omega)).mono ?_;rintro e w' ⟨rfl,rfl⟩);go_ret;refine⟨⟨_,rfl,fun hb=>?_⟩,rfl⟩;exact RealOk.exp HI.2.2.2 (HI.2.2.1 (by omega)) hm (by rw[HBZ.out];exact HE.out) (.inr ⟨rfl,.inr (by rw[HBZ2.out];exact HH.out)⟩) hb
        ·have q45:(((s[i+1]'hm2).toNat:Int) ==45)=false:=by simpa using h45
         clear h45;go_wp2_with (go_at_call 106;refine(aJ _ 10 _ (by rw[qo];omega)).mono ?_;rintro e w' ⟨rfl,rfl⟩);go_ret;refine⟨⟨_,rfl,fun hb=>?_⟩,rfl⟩;exact RealOk.exp HI.2.2.2 (HI.2.2.1 (by omega)) hm (by rw[HBZ.out];exact HE.out) (.inl rfl) hb
      ·have hmz2:¬ (i:Int)+1< (s.size:Int):=by omega
       have hle2:(i:Int)+1≤(s.size:Int):=by omega
       go_wp2_with (go_at_call 106;refine(aJ _ 10 _ (by rw[qo];omega)).mono ?_;rintro e w' ⟨rfl,rfl⟩);go_ret;refine⟨⟨_,rfl,fun hb=>?_⟩,rfl⟩;exact RealOk.exp HI.2.2.2 (HI.2.2.1 (by omega)) hm (by rw[HBZ.out];exact HE.out) (.inl rfl) hb
     ·have q101:(((s[i]'hm).toNat:Int) ==101)=false:=by simpa using h101
      by_cases h69:((s[i]'hm).toNat:Int)=69
      ·have q69:(((s[i]'hm).toNat:Int) ==69)=true:=by rw[h69];rfl
       have HE:Hid (((s[i]'hm).toNat:Int)=101∨((s[i]'hm).toNat:Int)=69):=Z (.inr h69);clear h101 h69;by_cases hm2:i+1<s.size
       ·have hmz2:(i:Int)+1< (s.size:Int):=by omega
        have HBZ2:=Z (aq hm2);have hz0:(0:Int)≤(i:Int)+1:=by omega
        have hzi:((i:Int)+1).toNat=i+1:=by omega
        by_cases h43:((s[i+1]'hm2).toNat:Int)=43
        ·have q43:(((s[i+1]'hm2).toNat:Int) ==43)=true:=by rw[h43];rfl
         have HH:=Z h43;clear h43;go_wp2_with (go_at_call 106;refine(aJ _ 10 _ (by rw[qo];omega)).mono ?_;rintro e w' ⟨rfl,rfl⟩);go_ret;refine⟨⟨_,rfl,fun hb=>?_⟩,rfl⟩;exact RealOk.exp HI.2.2.2 (HI.2.2.1 (by omega)) hm (by rw[HBZ.out];exact HE.out) (.inr ⟨rfl,.inl (by rw[HBZ2.out];exact HH.out)⟩) hb
        ·have q43:(((s[i+1]'hm2).toNat:Int) ==43)=false:=by simpa using h43
         clear h43;by_cases h45:((s[i+1]'hm2).toNat:Int)=45
         ·have q45:(((s[i+1]'hm2).toNat:Int) ==45)=true:=by rw[h45];rfl
          have HH:=Z h45;clear h45;go_wp2_with (go_at_call 106;refine(aJ _ 10 _ (by rw[qo];omega)).mono ?_;rintro e w' ⟨rfl,rfl⟩);go_ret;refine⟨⟨_,rfl,fun hb=>?_⟩,rfl⟩;exact RealOk.exp HI.2.2.2 (HI.2.2.1 (by omega)) hm (by rw[HBZ.out];exact HE.out) (.inr ⟨rfl,.inr (by rw[HBZ2.out];exact HH.out)⟩) hb
         ·have q45:(((s[i+1]'hm2).toNat:Int) ==45)=false:=by simpa using h45
          clear h45;go_wp2_with (go_at_call 106;refine(aJ _ 10 _ (by rw[qo];omega)).mono ?_;rintro e w' ⟨rfl,rfl⟩);go_ret;refine⟨⟨_,rfl,fun hb=>?_⟩,rfl⟩;exact RealOk.exp HI.2.2.2 (HI.2.2.1 (by omega)) hm (by rw[HBZ.out];exact HE.out) (.inl rfl) hb
       ·have hmz2:¬ (i:Int)+1< (s.size:Int):=by omega
        have hle2:(i:Int)+1≤(s.size:Int):=by omega
        go_wp2_with (go_at_call 106;refine(aJ _ 10 _ (by rw[qo];omega)).mono ?_;rintro e w' ⟨rfl,rfl⟩);go_ret;refine⟨⟨_,rfl,fun hb=>?_⟩,rfl⟩;exact RealOk.exp HI.2.2.2 (HI.2.2.1 (by omega)) hm (by rw[HBZ.out];exact HE.out) (.inl rfl) hb
      ·have q69:(((s[i]'hm).toNat:Int) ==69)=false:=by simpa using h69
       clear h101 h69;go_wp2_with fail;go_ret;refine⟨⟨_,rfl,fun hb=>?_⟩,rfl⟩;cases hb
    ·have hmz:¬ (i:Int) < (s.size:Int):=by omega
     have hie:i=s.size:=by have:=HI.1;omega
     have hne:((i:Int) == (s.size:Int))=true:=by simp;omega
     have HIE:=Z hie;clear hie;go_wp2_with fail;go_ret;refine⟨⟨_,rfl,fun hb=>?_⟩,rfl⟩;exact RealOk.num HI.2.2.2 (HI.2.2.1 hn) HIE.out
   ·have hnz:¬ (n:Int) >0:=by omega
    have hnz':¬ (0:Int) < (n:Int):=by omega
    go_wp2_with fail;go_ret;refine⟨⟨_,rfl,fun hb=>?_⟩,rfl⟩;cases hb
end Go.Proofs.YtnclklfhjbkjhaaGreatDoor
