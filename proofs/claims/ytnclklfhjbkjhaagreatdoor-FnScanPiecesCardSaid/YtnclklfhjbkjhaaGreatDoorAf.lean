/- Part of the proof: B5 B6. -/
import Derived.Test.YtnclklfhjbkjhaaGreatDoorAe
import Derived.Deep.CutRange
import Derived.Deep.DeepCutAuto
set_option maxRecDepth 1000000
set_option maxHeartbeats 40000000
set_option linter.unusedSimpArgs false
namespace Go.Proofs.YtnclklfhjbkjhaaGreatDoor
open Tryz
open Go.RowKit
theorem Env.lst{c:PC}{a a':Nat}{m m':Bool}{w0 w w':World}{bs:List (Nat×Array Value)}{v v':Value}{l l':List Nd}(h:Env c a m w0 bs [(v,l)] w)
  (s:PSt c a' m' w') (o:KOwn w0.heap.size w' v' l') (f:Fr (KF c.bp v) w w') (os:OwnStep w v v'):Env c a' m' w0 bs [(v',l')] w':=by
 have hv:∀g,v.ownBlock=some g→w0.heap.size≤g:=fun g hg=>((h.own (v,l) (by simp)).lt hg).1
 have hbp:=h.bp0;have hd:∀x∈bs,v.ownBlock≠some x.1:=fun x hx=>h.dis x hx (v,l) (by simp)
 refine⟨s,h.fr.andThen f (fun i hi e=>?_),fun x hx=>⟨(h.blk x hx).1,f.blk (fun e=>?_) (h.blk x hx).2⟩,fun x hx=>?_,fun x hx y hy e=>?_,h.pw,hbp,h.bt0⟩
 ·rcases e with e|e
  ·exact e
  ·have:=hv _ e;omega
 ·have:=(h.blk x hx).1;rcases e with e|e
  ·omega
  ·exact hd x hx e
 ·rcases List.mem_cons.1 hx with rfl|hx
  ·exact o
  ·cases hx
 ·rcases List.mem_cons.1 hy with rfl|hy
  ·rcases os x.1 e with e|e
   ·exact hd x hx e
   ·have:=af (h.blk x hx).2;omega
  ·cases hy
theorem Env.lpan{c:PC}{a:Nat}{m:Bool}{w0 w w':World}{bs:List (Nat×Array Value)}{v:Value}{l:List Nd}{ch:List PanicEntry}(h:Env c a m w0 bs [(v,l)] w)(hs:gV c ch w')(f:Fr (KF c.bp v) w w'):PPost c w0 (.panicked ch) w':=
 ⟨ch,rfl,hs,h.fr.andThen f fun i hi e=>by
  rcases e with e|e
  ·exact e
  ·have:=((h.own (v,l) (by simp)).lt e).1;omega⟩
theorem Env.sm{c:PC}{a:Nat}{m:Bool}{w0 w:World}{bs:List (Nat×Array Value)}{ks:List (Value×List Nd)}{l:List Nd}(h:Env c a m w0 bs ks w)(hl:l.length≤a):l.length≤1000000:=by
 have:=h.st.lt;have:=c.small;omega
theorem nc{c:PC}{i j k:Nat}(h:Out c.ts i j)(h':Out c.ts j k)(hm:aH (tk c.ts j) ⟨#[45]⟩=false):Out c.ts i k:=h.trans h' (NGa.of hm)
theorem k_{c:PC}{i:Nat}{b:UInt8}(hi:i<c.ts.length)(h:aH (tk c.ts i) ⟨#[b]⟩=true)(hb:¬ (b=95∨(97≤b∧b≤122)∨(65≤b∧b≤90)))
  (hs:b≠40∧b≠123∧b≠91∧b≠60∧b≠41∧b≠125∧b≠93∧b≠62∧b≠59):Out c.ts i (i+1)∧(tk c.ts (i+1-1)).kind≠2:=
 ⟨Out.sym (c.sym hi h hb) hs,by rw[show i+1-1=i from rfl,(c.sym hi h hb).1];decide⟩
theorem zG{c:PC}{i:Nat}{s:ByteArray}(h:aH (tk c.ts i) s=true)(hi:i<c.ts.length)(hs:s.toList.length≠1):(tk c.ts i).kind=1:=(gq (c.wf i hi) hs h).1
theorem wW(c:PC)(at_:Nat)(mild:Bool)(w:World)(h:PSt c at_ mild w)(hk:(tk c.ts at_).kind=1):
  Calls prog 123 #[.pointer (some ⟨c.bp,0,none⟩)] w (NPost c at_ mild w (GO c at_)):=by
 obtain⟨hb,hbt,hat,hsm,c0,c1,-,-,-,-,-,d0,d1,-,-,-⟩:=h.facts;have HK:=Z hk;have E0:=Z (Env.start h);clear h;rw[hk] at d0;clear hk;go_enter func123,ntmps123;go_wp2_with fail;have E1:=Z (E0.allocZ);generalize hr:(tk c.ts at_).raw=raw at*
 have HR:=Z hr;clear hr;cases hs:fX raw.toList
 ·go_quiet ((go_at_call 141;exact Calls.quiet_of_same (cB _ _)));clear c0 c1 d0 d1 hs;have KQ:Keep _ (_:World):=(Fr.refl (w.alloc (.cells #[.int .i64 0,.int .i64 0,.int .i64 0,.string ⟨#[]⟩,.int .u64 0,.slice none 0 0] 26))).drewN nq;have E2:=Z (E1.keep KQ);clear KQ;go_wp2_with fail;refine nC (dk c (at_) mild _ E2.st) E2 (fun _ _ p=>?_) (fun w3 at3 k3 f3 l3 t3 n3 ka3 kn3 kc3 HG3 HL3 E3=>?_)
  ·go_wp2_with fail;exact⟨rfl,.inr p⟩
  go_wp2_with (refine aw E3.z1 rfl rfl rfl ?_);exact aS E3 HL3.out ⟨(HG3.out.out (by have:=E3.st.lt;omega)).1,by rw[(HG3.out.out (by have:=E3.st.lt;omega)).2.1];decide,(HG3.out.out (by have:=E3.st.lt;omega)).2.2.1⟩ rfl rfl rfl
 ·go_quiet ((go_at_call 141;exact Calls.quiet_of_same (cB _ _)));clear c0 c1 d0 d1 hs;have KQ:Keep _ (_:World):=(Fr.refl (w.alloc (.cells #[.int .i64 0,.int .i64 0,.int .i64 0,.string ⟨#[]⟩,.int .u64 0,.slice none 0 0] 26))).drewN nq;have E2:=Z (E1.keep KQ);clear KQ;go_wp2_with fail;refine(cS c _ at_ mild _ E2.st).mono ?_;rintro e w3 ⟨⟨b,rfl⟩,kk⟩;have E3:=Z (E2.keep kk);clear kk;cases b
  ·go_wp2_with fail;refine nC (bm c 29 (at_) mild _ E3.st (by rw[HK.out];decide)) E3 (fun _ _ p=>?_) (fun w4 at4 k4 f4 l4 t4 n4 ka4 kn4 kc4 HG4 HL4 E4=>?_)
   ·go_wp2_with fail;exact⟨rfl,.inr p⟩
   go_wp2_with (refine aw E4.z1 rfl rfl rfl ?_);exact aS E4 HL4 (cD (by have:=E4.st.lt;omega) HG4.1 HK) rfl rfl rfl
  ·go_wp2_with fail;refine(ap c (at_) mild _ E3.st).mono ?_;rintro e wq ⟨ch,rfl,hS,F⟩;go_wp2_with fail;exact⟨rfl,.inr (E3.pan ⟨ch,rfl,hS,F⟩)⟩
theorem wX(c:PC)(at_:Nat)(mild:Bool)(w:World)(h:PSt c at_ mild w)(hk:(tk c.ts at_).kind≠1):
  Calls prog 123 #[.pointer (some ⟨c.bp,0,none⟩)] w (NPost c at_ mild w (GO c at_)):=by
 obtain⟨hb,hbt,hat,hsm,c0,c1,-,-,-,-,-,d0,d1,-,-,-⟩:=h.facts;have HK:=Z hk;have E0:=Z (Env.start h);clear h;have hk':((tk c.ts at_).kind==1)=false:=by simp[hk]
 clear hk;go_enter func123,ntmps123;go_wp2_with fail;have E1:=Z (E0.allocZ);go_quiet (fail);clear c0 c1 d0 d1;have KQ:Keep _ (_:World):=(Fr.refl (w.alloc (.cells #[.int .i64 0,.int .i64 0,.int .i64 0,.string ⟨#[]⟩,.int .u64 0,.slice none 0 0] 26))).drewN nq;have E2:=Z (E1.keep KQ);clear KQ;go_wp2_with fail;refine nC (dk c (at_) mild _ E2.st) E2 (fun _ _ p=>?_) (fun w3 at3 k3 f3 l3 t3 n3 ka3 kn3 kc3 HG3 HL3 E3=>?_)
 ·go_wp2_with fail;exact⟨rfl,.inr p⟩
 go_wp2_with (refine aw E3.z1 rfl rfl rfl ?_);exact aS E3 HL3.out ⟨(HG3.out.out (by have:=E3.st.lt;omega)).1,by rw[(HG3.out.out (by have:=E3.st.lt;omega)).2.1];decide,(HG3.out.out (by have:=E3.st.lt;omega)).2.2.1⟩ rfl rfl rfl
theorem dY(c:PC)(at_:Nat)(mild:Bool)(w:World)(h:PSt c at_ mild w):
  Calls prog 123 #[.pointer (some ⟨c.bp,0,none⟩)] w (NPost c at_ mild w (GO c at_)):=by
 by_cases hk:(tk c.ts at_).kind=1
 ·exact wW c at_ mild w h hk
 ·exact wX c at_ mild w h hk
theorem rZ{c:PC}{a0 a a1 a2:Nat}(h2:a2≤c.ts.length)(o:Out c.ts a0 a)(e1:a1=a+1)(s:aH (tk c.ts a) ⟨#[46]⟩=true)(o2:Out c.ts a1 a2)(m:aH (tk c.ts a1) ⟨#[45]⟩=false):Out c.ts a0 a2:=by
 subst e1;have hle:=o2.seg.le;exact nc (nc o (k_ (by omega) s (by decide) (by decide)).1 (aF s (by decide))) o2 m
theorem jb(c:PC)(at_:Nat)(mild:Bool)(w:World)(h:PSt c at_ mild w):
  Calls prog 113 #[.pointer (some ⟨c.bp,0,none⟩)] w (NPost c at_ mild w (GO c at_)):=by
 have E0:=Z (Env.start h);clear h;go_enter func113,ntmps113;go_wp2_with fail;have E1:=Z (E0.allocZ);refine nC (mM c (at_) mild _ E1.st) E1 (fun _ _ p=>?_) (fun w2 at2 k2 f2 l2 t2 n2 ka2 kn2 kc2 HG2 HL2 E2=>?_)
 ·go_wp2_with fail;exact⟨rfl,.inr p⟩
 go_wp2_with (refine bs1 rfl ?_;refine Hid.out ?_);refine Z ?_;have E3:=Z (E2.addNew [Nd.mk k2 f2 l2 t2 n2 ka2 kn2 kc2] #[.int .i64 k2,.int .i64 f2,.int .i64 l2,.string t2,.int .u64 n2,.slice ka2 kn2 kc2] rfl (by simp));go_wp2_with fail;go_loopw [3] (fun u wr=>∃ (a:Nat) (l:List Nd),Hid (Env c a mild w [(w.heap.size,#[.int .i64 0,.int .i64 0,.int .i64 0,.string ⟨#[]⟩,.int .u64 0,.slice none 0 0])] [(u,l)] wr)∧Hid (Out c.ts at_ a∧l≠[]∧l.length≤a∧at_<a∧(tk c.ts (a-1)).kind≠2∧aH (tk c.ts at_) ⟨#[45]⟩=false)) (fun _ wr=>c.ts.length-gT c wr)
 case atStart=>exact⟨at2,_,E3,Z ⟨HG2.1,by simp,by have:=HL2.out;simp;omega,HL2.out,HG2.2.1,HG2.2.2⟩⟩
 case round=>
  obtain⟨a,l,ER,HR⟩:=hrel;go_wp2_with fail;refine bO ER (fun w4 E4=>?_);cases h4:aH (tk c.ts (a)) {data:=#[46]}
  ·have H4:=Z h4;clear h4;go_wp2_with fail;obtain⟨g5,kc5,hv,-,-,-⟩:=E4.k1.big (HR.2.1);subst hv;refine kC (node_any w.heap.size 7 _ l _ E4.k1 (HR.2.1) (ER.sm HR.2.2.1)) E4 (fun w5 E5=>?_);obtain⟨r1,r2,r3,r4,r5,r6⟩:=HR.out;go_wp2_with (refine aw E5.z1 rfl rfl rfl ?_);refine qh (aN rfl (setRow_heap _ _ _ _ _ _ E5.z1) rfl) rfl ?_;exact .inl ⟨a,_,_,_,_,_,_,_,_,rfl,(E5.fin qr _).1,(E5.fin qr _).2,r4,⟨r1,r5,r6⟩⟩
  ·have H4:=Z h4;clear h4;go_wp2_with fail;refine nC (ak c _ (a) mild _ E4.st) E4 (fun _ _ p=>?_) (fun w6 at6 k6 f6 l6 t6 n6 ka6 kn6 kc6 HG6 HL6 E6=>?_)
   ·go_wp2_with fail;exact⟨rfl,.inr p⟩
   go_wp2_with (refine aB E6 (ER.sm HR.2.2.1) (by simp) (by decide) rfl rfl ?_;intro v7 w7 E7);refine Z ?_;go_wp2_with fail;refine nC (mM c (at6) mild _ E7.st) E7 (fun _ _ p=>?_) (fun w8 at8 k8 f8 l8 t8 n8 ka8 kn8 kc8 HG8 HL8 E8=>?_)
   ·go_wp2_with fail;exact⟨rfl,.inr p⟩
   go_wp2_with (refine aB E8 (E8.sm (by have:=HR.2.2.1;have:=HL6.out;have:=HL8.out;simp;omega)) (by simp) (by decide) rfl rfl ?_;intro v9 w9 E9);refine Z ?_;go_wp2_with fail;obtain⟨r1,r2,r3,r4,r5,r6⟩:=HR.out;go_roundw
   case rel=>exact⟨at8,_,E9,Z ⟨rZ (by have:=E9.st.lt;omega) r1 HG6.1 HG6.2.1 HG8.1 HG8.2.2,by simp,by have:=HL6.out;have:=HL8.out;simp;omega,by have:=HL6.out;have:=HL8.out;omega,HG8.2.1,r6⟩⟩
   case measure=>
     have e1:=aE ER.st;have e2:=aE E9.st;have:=HL6.out;have:=HL8.out;have:=E9.st.lt;rw[e1,e2];omega
def yc(c:PC)(at_:Nat)(at':Nat)(_ _ _:Int)(_:ByteArray)(_:Int)(_:Value)(_:World):Prop:=SetR c.ts at_ at'∧(tk c.ts (at'-1)).kind≠2∧aH (tk c.ts at_) ⟨#[45]⟩=false
def zE(c:PC)(at_:Nat)(at':Nat)(_ _ _:Int)(_:ByteArray)(_:Int)(_:Value)(_:World):Prop:=InR c.ts at_ at'∧aH (tk c.ts at_) ⟨#[45]⟩=false
def LitGe(c:PC)(a0:Nat):Prop:=∀ (a:Nat) (mild:Bool) (w:World),a0≤a→PSt c a mild w→Calls prog 143 #[.pointer (some ⟨c.bp,0,none⟩)] w (NPost c a mild w (yc c a))
theorem LitGe.at{c:PC}{a0:Nat}(h:LitGe c a0)(a:Nat)(ha:a0≤a)(mild:Bool)(w:World)(hs:PSt c a mild w):Calls prog 143 #[.pointer (some ⟨c.bp,0,none⟩)] w (NPost c a mild w (yc c a)):=h a mild w ha hs
def zA(c:PC)(at_ a:Nat)(l:List Nd):Prop:=Out c.ts at_ a∧(tk c.ts (a-1)).kind≠2∧l.length≤a∧aH (tk c.ts at_) ⟨#[45]⟩=false∧l≠[]∧at_<a
def zB(c:PC)(at_ a:Nat)(l:List Nd):Prop:=Out c.ts at_ a∧(tk c.ts (a-1)).kind≠2∧l.length≤a∧aH (tk c.ts at_) ⟨#[45]⟩=false∧l≠[]∧at_<a
theorem lM{c:PC}{a a1 a2 a3:Nat}{k f l:Int}{t:ByteArray}{n:Int}{v:Value}{w:World}(h3:a3≤c.ts.length)(e1:a1=a+1)(s1:aH (tk c.ts a) ⟨#[91]⟩=true)(p:PathG c false a1 a2 k f l t n v w)(e3:a3=a2+1)(s3:aH (tk c.ts a2) ⟨#[93]⟩=true):
  Out c.ts a a3∧(tk c.ts (a3-1)).kind≠2∧aH (tk c.ts a) ⟨#[45]⟩=false:=by
 subst e1;subst e3;obtain⟨o,l,f,lt⟩:=p.out (by omega);have y1:=c.sym (i:=a) (by omega) s1 (by decide);have y3:=c.sym (i:=a2) (by omega) s3 (by decide);exact⟨Out.wrap y1 y3 (by simp) o.set.inr,by rw[show a2+1-1=a2 from rfl,y3.1];decide,aF s1 (by decide)⟩
theorem jl{c:PC}{a a1 a2 b1 b2 a3:Nat}{k f l:Int}{t:ByteArray}{n:Int}{v:Value}{w:World}{k' f' l':Int}{t':ByteArray}{n':Int}{v':Value}{w':World}(h3:a3≤c.ts.length)(e1:a1=a+1)(s1:aH (tk c.ts a) ⟨#[91]⟩=true)(p:PathG c false a1 a2 k f l t n v w)(eb:b1=a2+1)(sb:aH (tk c.ts a2) ⟨#[47]⟩=true)(p':PathG c false b1 b2 k' f' l' t' n' v' w')(e3:a3=b2+1)(s3:aH (tk c.ts b2) ⟨#[93]⟩=true):
  Out c.ts a a3∧(tk c.ts (a3-1)).kind≠2∧aH (tk c.ts a) ⟨#[45]⟩=false:=by
 subst e1;subst e3;subst eb;obtain⟨o',l',f',lt'⟩:=p'.out (by omega);obtain⟨o,l,f,lt⟩:=p.out (by omega);have y1:=c.sym (i:=a) (by omega) s1 (by decide);have y3:=c.sym (i:=b2) (by omega) s3 (by decide);have m:=nc (nc o (k_ (by omega) sb (by decide) (by decide)).1 (aF sb (by decide))) o' f';exact⟨Out.wrap y1 y3 (by simp) m.set.inr,by rw[show b2+1-1=b2 from rfl,y3.1];decide,aF s1 (by decide)⟩
def GS(c:PC)(at_:Nat)(at':Nat)(_ _ _:Int)(_:ByteArray)(_:Int)(_:Value)(_:World):Prop:=SetR c.ts at_ at'
theorem oQ(c:PC)(at_:Nat)(mild:Bool)(w:World)(h:PSt c at_ mild w)(hlit:LitGe c at_)(b1 b2:Nat)(colon:Bool)(n1:b1≠c.bp)(n2:b2≠c.bp)(q1:w.cell? ⟨b1,0,none⟩=some (.pointer (some ⟨c.bp,0,none⟩)))(q2:w.cell? ⟨b2,0,none⟩=some (.bool colon)):
  Calls prog 184 #[.pointer (some ⟨b1,0,none⟩),.pointer (some ⟨b2,0,none⟩)] w (NPost c at_ mild w (GS c at_)):=by
 have E0:=Z (Env.start h);clear h;have HLit:=Z hlit;have Q1:=Z q1;have Q2:=Z q2;have N1:=Z n1;have N2:=Z n2;have L1:=ax q1;clear hlit q2;go_enter func184,ntmps184;go_wp2_with fail;have E1:=Z (E0.allocZ);clear q1 n1 n2 L1;refine bO E1 (fun w2 E2=>?_);have q0:=Fr.cell E2.fr N1 Q1.out;have q1:=Fr.cell E2.fr N2 Q2.out;cases h2:aH (tk c.ts (at_)) {data:=#[123]}
 ·have H2:=Z h2;clear h2;go_wp2_with fail;refine bO E2 (fun w3 E3=>?_);clear q0 q1;have q0:=Fr.cell E3.fr N1 Q1.out;have q1:=Fr.cell E3.fr N2 Q2.out;cases h3:aH (tk c.ts (at_)) {data:=#[60]}
  ·have H3:=Z h3;clear h3;go_wp2_with fail
   ·clear q0 q1;refine(ap c (at_) mild _ E3.st).mono ?_;rintro e wq ⟨ch,rfl,hS,F⟩;go_wp2_with fail;exact⟨rfl,.inr (E3.pan ⟨ch,rfl,hS,F⟩)⟩
   ·clear q0 q1;refine nC (fK c (at_) mild _ E3.st) E3 (fun _ _ p=>?_) (fun w4 at4 k4 f4 l4 t4 n4 ka4 kn4 kc4 HG4 HL4 E4=>?_)
    ·go_wp2_with fail;exact⟨rfl,.inr p⟩
    have q0:=Fr.cell E4.fr N1 Q1.out;have q1:=Fr.cell E4.fr N2 Q2.out;go_wp2_with (refine aw E4.z1 rfl rfl rfl ?_);exact aS E4 HL4 HG4.set rfl rfl rfl
  ·have H3:=Z h3;clear h3;go_wp2_with fail;clear q0 q1;refine nC ((HLit.at at_ qr mild) _ E3.st) E3 (fun _ _ p=>?_) (fun w5 fS k5 f5 l5 t5 n5 ka5 kn5 kc5 HG5 HL5 E5=>?_)
   ·go_wp2_with fail;exact⟨rfl,.inr p⟩
   have q0:=Fr.cell E5.fr N1 Q1.out;have q1:=Fr.cell E5.fr N2 Q2.out;go_wp2_with (refine aw E5.z1 rfl rfl rfl ?_);exact aS E5 HL5 HG5.1 rfl rfl rfl
 ·have H2:=Z h2;clear h2;go_wp2_with fail;clear q0 q1;refine nC ((HLit.at at_ qr mild) _ E2.st) E2 (fun _ _ p=>?_) (fun w6 at6 k6 f6 l6 t6 n6 ka6 kn6 kc6 HG6 HL6 E6=>?_)
  ·go_wp2_with fail;exact⟨rfl,.inr p⟩
  have q0:=Fr.cell E6.fr N1 Q1.out;have q1:=Fr.cell E6.fr N2 Q2.out;go_wp2_with (refine aw E6.z1 rfl rfl rfl ?_);exact aS E6 HL6 HG6.1 rfl rfl rfl
theorem NPost.fr{c:PC}{at_:Nat}{mild:Bool}{a w:World}{G:Nat→Int→Int→Int→ByteArray→Int→Value→World→Prop}{e:Ending}{w':World}(f:Fr (· =c.bp) a w)(h:NPost c at_ mild w G e w'):NPost c at_ mild a G e w':=by
 rcases h with⟨at',k,fi,l,t,n,ka,kn,kc,h1,h2,h3,h4⟩|h
 ·exact .inl ⟨at',k,fi,l,t,n,ka,kn,kc,h1,h2,f.trans h3,h4⟩
 ·exact .inr (h.fr f)
theorem cY{c:PC}{b B:Nat}{v:Value}{w w1 w2:World}{val:Value}(h:w1.cell? ⟨b,0,none⟩=some val)(hb:b<B)(hne:b≠c.bp)(hv:∀g,v.ownBlock=some g→B≤g)(hB:B≤w.heap.size)
  (f:Fr (fun k=>k=c.bp∨v.ownBlock=some k∨w.heap.size≤k) w1 w2):w2.cell? ⟨b,0,none⟩=some val:=
 Fr.cell f (by
  rintro(e|e|e)
  ·exact hne e
  ·have:=hv _ e;omega
  ·omega) h
theorem fm{c:PC}{One:Nat→Nat→Prop}(hone:∀i j,j≤c.ts.length→One i j→SetR c.ts i j){i j:Nat}(h:LSeg One c.ts i j)(hj:j≤c.ts.length):InR c.ts i j∧i≤j:=by
 induction h with
 |one h=>exact⟨(hone _ _ hj h).inr,(hone _ _ hj h).seg.le⟩
 | @more j k h1 h2 h3 ih=>
  have o:=hone _ _ hj h3;have hle:=o.seg.le;obtain⟨ih,hl⟩:=ih (by omega);have y:=k_ (c:=c) (i:=j) (by omega) h2 (by decide) (by decide);exact⟨(ih.trans y.1.set.inr (NGa.of (aF h2 (by decide)))).trans o.inr (NGa.prev y.2),by omega⟩
theorem lf{c:PC}{a a1 a2 a3:Nat}(h3:a3≤c.ts.length)(e1:a1=a+1)(s1:aH (tk c.ts a) ⟨#[91]⟩=true)(o:InR c.ts a1 a2)(e3:a3=a2+1)(s3:aH (tk c.ts a2) ⟨#[93]⟩=true):
  Out c.ts a a3∧(tk c.ts (a3-1)).kind≠2∧aH (tk c.ts a) ⟨#[45]⟩=false:=by
 subst e1;subst e3;have hle:=o.seg.le;have y1:=c.sym (i:=a) (by omega) s1 (by decide);have y3:=c.sym (i:=a2) (by omega) s3 (by decide);exact⟨Out.wrap y1 y3 (by simp) o,by rw[show a2+1-1=a2 from rfl,y3.1];decide,aF s1 (by decide)⟩
theorem vo(c:PC)(colon:Bool)(at_:Nat)(mild:Bool)(wo:World)(h:PSt c at_ mild wo)(hlit:LitGe c at_):
  Calls prog 167 #[.pointer (some ⟨c.bp,0,none⟩),.bool colon] wo (NPost c at_ mild wo (GO c at_)):=by
 have hfr:Keep wo ((wo.alloc (.cells #[.pointer (some ⟨c.bp,0,none⟩)] 49)).alloc (.cells #[.bool colon] 4)):=((Fr.refl wo).alloc _).alloc _;refine Calls.mono (?_ :Calls prog 167 _ wo (NPost c at_ mild ((wo.alloc (.cells #[.pointer (some ⟨c.bp,0,none⟩)] 49)).alloc (.cells #[.bool colon] 4)) (GO c at_))) (fun e w' hh=>hh.fr hfr.up);have HLit:=Z hlit;have E0:=Z (Env.start (h.keep hfr));have hs:wo.heap.size+1+1=((wo.alloc (.cells #[.pointer (some ⟨c.bp,0,none⟩)] 49)).alloc (.cells #[.bool colon] 4)).heap.size:=by simp
 have hs':wo.heap.size+1< ((wo.alloc (.cells #[.pointer (some ⟨c.bp,0,none⟩)] 49)).alloc (.cells #[.bool colon] 4)).heap.size:=by simp
 have Q1:=Z (aD (o:= .cells #[.bool colon] 4) (ab (ql wo (.cells #[.pointer (some ⟨c.bp,0,none⟩)] 49)) 0));have Q2:=Z (ab (ql (wo.alloc (.cells #[.pointer (some ⟨c.bp,0,none⟩)] 49)) (.cells #[.bool colon] 4)) 0);have Q2:=Q2.out;rw[World.size_alloc] at Q2;have Q2:=Z Q2;have N1:=Z (show wo.heap.size≠c.bp from by have:=h.bp;omega);have N2:=Z (show wo.heap.size+1≠c.bp from by have:=h.bp;omega);have HS:=Z hs;have HS':=Z hs';clear h hfr hlit hs hs';go_enter func167,ntmps167;go_wp2_with fail;have hs:=HS.out;have hs':=HS'.out;rw[hs];clear hs;generalize(wo.alloc (.cells #[.pointer (some ⟨c.bp,0,none⟩)] 49)).alloc (.cells #[.bool colon] 4)=w at*
 generalize wo.heap.size=b1 at*
 have HB:=Z hs';clear hs' HS HS';have E1:=Z (E0.allocZ);refine nC (ak c _ (at_) mild _ E1.st) E1 (fun _ _ p=>?_) (fun w2 at2 k2 f2 l2 t2 n2 ka2 kn2 kc2 HG2 HL2 y=>?_)
 ·go_wp2_with fail;exact⟨rfl,.inr p⟩
 have LT2:=Z (af y.out.z1);have E2:=Z (y.out.alloc #[.int .i64 k2,.int .i64 f2,.int .i64 l2,.string t2,.int .u64 n2,.slice ka2 kn2 kc2]);clear y;have q0:=Fr.cell E2.fr N1 Q1.out;have q1:=Fr.cell E2.fr N2 Q2.out;go_wp2_with fail;refine bO E2 (fun w3 E3=>?_);clear q0 q1;have q0:=Fr.cell E3.fr N1 Q1.out;have q1:=Fr.cell E3.fr N2 Q2.out;cases h3:aH (tk c.ts (at2)) {data:=#[93]}
 ·have H3:=Z h3;clear h3;go_wp2_with (first|(refine cE E3.z1 rfl ?_)|(refine bs1 rfl ?_;refine Hid.out ?_));refine Z ?_;have E4:=Z (E3.addNew [Nd.mk k2 f2 l2 t2 n2 ka2 kn2 kc2] #[.int .i64 k2,.int .i64 f2,.int .i64 l2,.string t2,.int .u64 n2,.slice ka2 kn2 kc2] rfl (by simp));go_wp2_with fail;clear q0 q1;have q0:=Fr.cell E4.fr N1 Q1.out;have q1:=Fr.cell E4.fr N2 Q2.out;have hin:(fun w':World=>w'.cell? ⟨b1,0,none⟩=some (.pointer (some ⟨c.bp,0,none⟩))∧w'.cell? ⟨b1+1,0,none⟩=some (.bool colon)) _:=⟨q0,q1⟩;have Hin:=Z hin;clear hin;clear q0 q1;have HK:=Z (fun g (hg:Value.ownBlock _=some g)=>(E4.k1.lt hg).1);refine(dW c 184 #[] #[.pointer (some ⟨b1,0,none⟩),.pointer (some ⟨b1+1,0,none⟩)] w.heap.size _ [Nd.mk k2 f2 l2 t2 n2 ka2 kn2 kc2] at2 mild _ (SetR c.ts) (fun w'=>w'.cell? ⟨b1,0,none⟩=some (.pointer (some ⟨c.bp,0,none⟩))∧w'.cell? ⟨b1+1,0,none⟩=some (.bool colon)) (fun _ _ hi f=>⟨cY hi.1 (by have:=HB.out;omega) N1.out HK.out E4.fr.size f,cY hi.2 HB.out N2.out HK.out E4.fr.size f⟩) Hin.out (fun _ _=>by kernel_rfl) (fun a w1 ha hs hi=>oQ c a mild w1 hs (fun a' m' w' ha' hs'=>HLit.out a' m' w' (by have:=HL2.out;omega) hs') b1 (b1+1) colon N1.out N2.out hi.1 hi.2) E4.st E4.k1 E4.bp0 E4.bt0 E4.fr.size (by have:=HL2.out;simp;omega)).mono ?_;rintro e w5 (⟨fS,v5,l5,rfl,hP,hO,hN,F,hS,hlt,hlen,hG⟩|⟨ch,rfl,hS,F⟩);rotate_left
  ·go_wp2_with fail;exact⟨rfl,.inr (E4.lpan hS F)⟩
  have HG5:=Z hG;have HL5:=Z hlt;have HM5:=Z hlen;have E5:=Z (E4.lst hP hO F hS);clear hP hO hN F hS hlt hlen hG;have q0:=Fr.cell E5.fr N1 Q1.out;have q1:=Fr.cell E5.fr N2 Q2.out;go_wp2_with fail;refine nC (ak c _ (fS) mild _ E5.st) E5 (fun _ _ p=>?_) (fun w6 at6 k6 f6 l6 t6 n6 ka6 kn6 kc6 HG6 HL6 E6=>?_)
  ·go_wp2_with fail;exact⟨rfl,.inr p⟩
  clear q0 q1;have q0:=Fr.cell E6.fr N1 Q1.out;have q1:=Fr.cell E6.fr N2 Q2.out;go_wp2_with (refine aB E6 (E5.sm HM5.out) (by simp) (by decide) rfl rfl ?_;intro v7 w7 E7);refine Z ?_;go_wp2_with fail;obtain⟨g8,kc8,hv,-,-,-⟩:=E7.k1.big (by simp);subst hv;refine kC (node_any w.heap.size 28 _ _ _ E7.k1 (by simp) (E7.sm (by have:=HM5.out;have:=HL6.out;simp at*;omega))) E7 (fun w8 E8=>?_);clear q0 q1;go_wp2_with (refine aw E8.z2 rfl rfl rfl ?_);refine qh (aN rfl (setRow_heap _ _ _ _ _ _ E8.z2) rfl) rfl ?_;exact .inl ⟨at6,_,_,_,_,_,_,_,_,rfl,(E8.fin qr _).1,(E8.fin qr _).2,by have:=HL2.out;have:=HL5.out;have:=HL6.out;omega,lf (by have:=E8.st.lt;omega) HG2.1 HG2.2.1 (fm (fun _ _ _ h=>h) HG5 (by have:=E8.st.lt;have:=HL6.out;omega)).1 HG6.1 HG6.2.1⟩
 ·have H3:=Z h3;clear h3;go_wp2_with fail
  ·clear q0 q1;refine(ap c (at2) mild _ E3.st).mono ?_;rintro e wq ⟨ch,rfl,hS,F⟩;go_wp2_with fail;exact⟨rfl,.inr (E3.pan ⟨ch,rfl,hS,F⟩)⟩
  ·clear q0 q1;have M1:b1≠w.heap.size:=by have:=HB.out;omega
   refine aG (fun x0=>Hid (Env c (at2) mild w [(w2.heap.size,#[.int .i64 k2,.int .i64 f2,.int .i64 l2,.string t2,.int .u64 n2,.slice ka2 kn2 kc2]),(w.heap.size,#[.int .i64 0,.int .i64 0,.int .i64 0,.string ⟨#[]⟩,.int .u64 0,.slice none 0 0])] [] x0)) E3 ?_;intro x0 X0;generalize w2.heap.size=b2 at*
   have cb2:∀ (w':World) (o:Nat),w'.heap[b2]? =some (.cells #[.int .i64 k2,.int .i64 f2,.int .i64 l2,.string t2,.int .u64 n2,.slice ka2 kn2 kc2] 26 (0,0))→w'.cell? ⟨b2,o,none⟩=(#[.int .i64 k2,.int .i64 f2,.int .i64 l2,.string t2,.int .u64 n2,.slice ka2 kn2 kc2]:Array Value)[o]? :=fun _ o z=>ab z o
   have N2:b2≠c.bp:=by have:=(X0).lt1.1;have:=X0.bp0;omega
   have D2:b2≠w.heap.size:=by have:=LT2.out;omega
   have Z2:=Keep.blk ((Fr.refl x0).drew) X0.z1;have N0:w.heap.size≠c.bp:=by have:=X0.bp0;omega
   have Z0:=Keep.blk ((Fr.refl x0).drew) X0.z2;have X1:=Z (X0.keep ((Fr.refl x0).drew));have yb1:x0.drew.cell? ⟨b1,0,none⟩=some (.pointer (some ⟨c.bp,0,none⟩)):=Fr.cell X1.fr N1 Q1.out;go_region_held2 (fun w'=>w'.heap[b2]? =some (.cells #[.int .i64 k2,.int .i64 f2,.int .i64 l2,.string t2,.int .u64 n2,.slice ka2 kn2 kc2] 26 (0,0))∧w'.cell? ⟨b1,0,none⟩=some (.pointer (some ⟨c.bp,0,none⟩)))
    (first|with_reducible exact⟨Z2,yb1⟩|with_reducible exact⟨F5.blk N2 Z2,Fr.cell F5 N1.out yb1⟩|with_reducible exact⟨Keep.blk ((Fr.refl _).alloc _) (F5.blk N2 Z2),aD (Fr.cell F5 N1.out yb1)⟩|with_reducible exact⟨Keep.blk k6 (Keep.blk ((Fr.refl _).alloc _) (F5.blk N2 Z2)),Keep.cell k6 (aD (Fr.cell F5 N1.out yb1))⟩|(refine⟨Fr.blk (S:=(· =w.heap.size)) ?_ D2 (Keep.blk k6 (Keep.blk ((Fr.refl _).alloc _) (F5.blk N2 Z2))),Fr.cell (S:=(· =w.heap.size)) ?_ M1 (Keep.cell k6 (aD (Fr.cell F5 N1.out yb1)))⟩<;> (repeat(first|(with_reducible exact Fr.refl _)|(with_reducible refine Fr.setIn ?_ _ rfl)))))
    (first|(go_at_call 48;refine(ak c _ (at2) mild _ X1.st).mono ?_;rintro e w9 (⟨at9,k9,f9,l9,t9,n9,ka9,kn9,kc9,rfl,hP5,F5,hlt,hG⟩|⟨ch,rfl,hS,F⟩);rotate_left;(exact⟨rfl,.inr (X1.pan ⟨ch,rfl,hS,F⟩)⟩))|(go_at_call 27;refine(node_any w.heap.size 28 _ [Nd.mk k2 f2 l2 t2 n2 ka2 kn2 kc2,Nd.mk k9 f9 l9 t9 n9 ka9 kn9 kc9] _ ((X1.call hP5 F5).addNew _ _ rfl (by simp)).k1 (by simp) (by simp)).mono ?_;rintro e w6 ⟨rfl,k6⟩;obtain⟨r0,r1,r2,r3,r4,r5,g0,g1,g2,g3,g4,g5⟩:=c_ (k6.blk (Keep.blk ((Fr.refl w9).alloc (.cells _ 26)) (F5.blk N0 Z0)))))
   have HG9:=Z hG;have HL9:=Z hlt;have E9:=Z ((((X1.call hP5 F5).addNew [Nd.mk k2 f2 l2 t2 n2 ka2 kn2 kc2,Nd.mk k9 f9 l9 t9 n9 ka9 kn9 kc9] #[.int .i64 k2,.int .i64 f2,.int .i64 l2,.string t2,.int .u64 n2,.slice ka2 kn2 kc2,.int .i64 k9,.int .i64 f9,.int .i64 l9,.string t9,.int .u64 n9,.slice ka9 kn9 kc9] rfl (by simp)).dropK).keep k6);have Z6:=Z E9.z2;rw[lg Z6.out];clear r0 r1 r2 r3 r4 r5 g0 g1 g2 g3 g4 g5 hG hlt hP5 F5 k6 N0 Z0 cb2 N2 D2 Z2 yb1;go_wp2_with fail;refine qh (aN rfl (setRow_heap _ _ _ _ _ _ Z6) rfl) rfl ?_;exact .inl ⟨at9,_,_,_,_,_,_,_,_,rfl,(E9.fin qr _).1,(E9.fin qr _).2,by have:=HL2.out;have:=HL9.out;omega,lf (by have:=E9.st.lt;omega) HG2.1 HG2.2.1 InR.nil HG9.1 HG9.2.1⟩
theorem kL(c:PC)(at_:Nat)(mild:Bool)(w:World)(h:PSt c at_ mild w)(hlit:LitGe c at_):
  Calls prog 160 #[.pointer (some ⟨c.bp,0,none⟩)] w (NPost c at_ mild w (zE c at_)):=by
 have E0:=Z (Env.start h);clear h;have HLit:=Z hlit;clear hlit;go_enter func160,ntmps160;have E1:=Z (E0.allocZ);have E2:=Z E1.addNil;go_upto_if 8 with(go_at_call 22;refine(bG c _ at_ mild _ E2.st).mono ?_;rintro e wa ⟨rfl,kk⟩);have E3:=Z (E2.keep kk);clear kk;go_cut [3] from 4 to 46 (fun u wr=>∃ (a:Nat) (l:List Nd),Hid (Env c a mild w [(w.heap.size,#[.int .i64 0,.int .i64 0,.int .i64 0,.string ⟨#[]⟩,.int .u64 0,.slice none 0 0])] [(u,l)] wr)∧Hid (zA c at_ a l))
 case first=>
  cases h1:aH (tk c.ts at_) {data:=#[91]}
  ·clear h1;go_wp2_with fail;have E4:=Z E3.dropK;refine nC (a_ c (at_) mild _ E4.st) E4 (fun _ _ p=>?_) (fun w5 fS k5 f5 l5 t5 n5 ka5 kn5 kc5 HG5 HL5 E5=>?_)
   ·go_wp2_with fail;exact⟨rfl,.inr p⟩
   go_wp2_with (refine bs1 rfl ?_;refine Hid.out ?_);refine Z ?_;have E6:=Z (E5.addNew [Nd.mk k5 f5 l5 t5 n5 ka5 kn5 kc5] #[.int .i64 k5,.int .i64 f5,.int .i64 l5,.string t5,.int .u64 n5,.slice ka5 kn5 kc5] rfl (by simp));go_wp2_with fail;refine kC (node_any w.heap.size 8 _ [Nd.mk k5 f5 l5 t5 n5 ka5 kn5 kc5] _ E6.k1 (by simp) (by simp)) E6 (fun w7 E7=>?_);have E8:=Z E7.dropK;have E9:=Z (E8.addNil);go_wp2_with (refine aB E9 (by simp) (by simp) (by decide) rfl rfl ?_;intro v10 w10 E10);refine Z ?_;go_wp2_with fail;go_meet;exact⟨fS,_,E10,Z ⟨(cD (by have:=E10.st.lt;omega) HG5.1 HG5.2.1).1,(cD (by have:=E10.st.lt;omega) HG5.1 HG5.2.1).2.1,by have:=HL5.out;simp;omega,(cD (by have:=E10.st.lt;omega) HG5.1 HG5.2.1).2.2,by simp,HL5.out⟩⟩
  ·clear h1;go_wp2_with fail;have E11:=Z E3.dropK;refine nC (ak c _ (at_) mild _ E11.st) E11 (fun _ _ p=>?_) (fun w12 at12 k12 f12 l12 t12 n12 ka12 kn12 kc12 HG12 HL12 y=>?_)
   ·go_wp2_with fail;exact⟨rfl,.inr p⟩
   have LT12:=Z (af y.out.z1);have E12:=Z (y.out.alloc #[.int .i64 k12,.int .i64 f12,.int .i64 l12,.string t12,.int .u64 n12,.slice ka12 kn12 kc12]);clear y;go_wp2_with fail;refine bO E12 (fun w13 E13=>?_);cases h13:aH (tk c.ts (at12)) {data:=#[46]}
   ·have H13:=Z h13;clear h13;go_wp2_with fail;refine aG (fun x0=>Hid (Env c (at12) mild w [(w12.heap.size,#[.int .i64 k12,.int .i64 f12,.int .i64 l12,.string t12,.int .u64 n12,.slice ka12 kn12 kc12]),(w.heap.size,#[.int .i64 0,.int .i64 0,.int .i64 0,.string ⟨#[]⟩,.int .u64 0,.slice none 0 0])] [] x0)) E13 ?_;intro x0 X0;generalize w12.heap.size=b12 at*
    have cb12:∀ (w':World) (o:Nat),w'.heap[b12]? =some (.cells #[.int .i64 k12,.int .i64 f12,.int .i64 l12,.string t12,.int .u64 n12,.slice ka12 kn12 kc12] 26 (0,0))→w'.cell? ⟨b12,o,none⟩=(#[.int .i64 k12,.int .i64 f12,.int .i64 l12,.string t12,.int .u64 n12,.slice ka12 kn12 kc12]:Array Value)[o]? :=fun _ o z=>ab z o
    have N12:b12≠c.bp:=by have:=(X0).lt1.1;have:=X0.bp0;omega
    have D12:b12≠w.heap.size:=by have:=LT12.out;omega
    have Z12:=Keep.blk ((Fr.refl x0).drew) X0.z1;have N0:w.heap.size≠c.bp:=by have:=X0.bp0;omega
    have Z0:=Keep.blk ((Fr.refl x0).drew) X0.z2;have X1:=Z (X0.keep ((Fr.refl x0).drew));go_region_held2 (fun w'=>w'.heap[b12]? =some (.cells #[.int .i64 k12,.int .i64 f12,.int .i64 l12,.string t12,.int .u64 n12,.slice ka12 kn12 kc12] 26 (0,0)))
     (first|with_reducible exact Z12|with_reducible exact F5.blk N12 Z12|with_reducible exact Keep.blk ((Fr.refl _).alloc _) (F5.blk N12 Z12))
     (first|(go_at_call 51;refine(fN c (at12) mild _ X1.st).mono ?_;rintro e w14 (⟨at14,k14,f14,l14,t14,n14,ka14,kn14,kc14,rfl,hP5,F5,hlt,hG⟩|⟨ch,rfl,hS,F⟩);rotate_left;(exact⟨rfl,.inr (X1.pan ⟨ch,rfl,hS,F⟩)⟩)))
    have HG14:=Z hG;have HL14:=Z hlt;have E14:=Z ((X1.call hP5 F5).addNew [Nd.mk k12 f12 l12 t12 n12 ka12 kn12 kc12,Nd.mk k14 f14 l14 t14 n14 ka14 kn14 kc14] #[.int .i64 k12,.int .i64 f12,.int .i64 l12,.string t12,.int .u64 n12,.slice ka12 kn12 kc12,.int .i64 k14,.int .i64 f14,.int .i64 l14,.string t14,.int .u64 n14,.slice ka14 kn14 kc14] rfl (by simp));clear hG hlt hP5 F5 N0 Z0 cb12 N12 D12 Z12;go_wp2_with fail;refine bO E14 (fun w15 E15=>?_);cases h15:aH (tk c.ts (at14)) {data:=#[47]}
    ·have H15:=Z h15;clear h15;go_wp2_with fail;refine nC (ak c _ (at14) mild _ E15.st) E15 (fun _ _ p=>?_) (fun w16 at16 k16 f16 l16 t16 n16 ka16 kn16 kc16 HG16 HL16 E16=>?_)
     ·go_wp2_with fail;exact⟨rfl,.inr p⟩
     go_wp2_with (refine aB E16 (by simp) (by simp) (by decide) rfl rfl ?_;intro v17 w17 E17);refine Z ?_;go_wp2_with fail;obtain⟨g18,kc18,hv,-,-,-⟩:=E17.k1.big (by simp);subst hv;refine kC (node_any w.heap.size 8 _ _ _ E17.k1 (by simp) (by simp)) E17 (fun w18 E18=>?_);have E19:=Z E18.dropK;have E20:=Z E19.dropB;have E21:=Z (E20.addNil);go_wp2_with (refine aB E21 (by simp) (by simp) (by decide) rfl rfl ?_;intro v22 w22 E22);refine Z ?_;go_wp2_with fail;go_meet;exact⟨at16,_,E22,Z ⟨(lM (by have:=E22.st.lt;omega) HG12.1 HG12.2.1 HG14.out HG16.1 HG16.2.1).1,(lM (by have:=E22.st.lt;omega) HG12.1 HG12.2.1 HG14.out HG16.1 HG16.2.1).2.1,by have:=HL12.out;have:=HL14.out;have:=HL16.out;simp;omega,(lM (by have:=E22.st.lt;omega) HG12.1 HG12.2.1 HG14.out HG16.1 HG16.2.1).2.2,by simp,by have:=HL12.out;have:=HL14.out;have:=HL16.out;omega⟩⟩
    ·have H15:=Z h15;clear h15;go_wp2_with fail;refine nC (ak c _ (at14) mild _ E15.st) E15 (fun _ _ p=>?_) (fun w23 at23 k23 f23 l23 t23 n23 ka23 kn23 kc23 HG23 HL23 E23=>?_)
     ·go_wp2_with fail;exact⟨rfl,.inr p⟩
     go_wp2_with (refine aB E23 (by simp) (by simp) (by decide) rfl rfl ?_;intro v24 w24 E24);refine Z ?_;go_wp2_with fail;refine nC (fN c (at23) mild _ E24.st) E24 (fun _ _ p=>?_) (fun w25 at25 k25 f25 l25 t25 n25 ka25 kn25 kc25 HG25 HL25 E25=>?_)
     ·go_wp2_with fail;exact⟨rfl,.inr p⟩
     go_wp2_with (refine aB E25 (by simp) (by simp) (by decide) rfl rfl ?_;intro v26 w26 E26);refine Z ?_;go_wp2_with fail;refine nC (ak c _ (at25) mild _ E26.st) E26 (fun _ _ p=>?_) (fun w27 at27 k27 f27 l27 t27 n27 ka27 kn27 kc27 HG27 HL27 E27=>?_)
     ·go_wp2_with fail;exact⟨rfl,.inr p⟩
     go_wp2_with (refine aB E27 (by simp) (by simp) (by decide) rfl rfl ?_;intro v28 w28 E28);refine Z ?_;go_wp2_with fail;obtain⟨g29,kc29,hv,-,-,-⟩:=E28.k1.big (by simp);subst hv;refine kC (node_any w.heap.size 8 _ _ _ E28.k1 (by simp) (by simp)) E28 (fun w29 E29=>?_);have E30:=Z E29.dropK;have E31:=Z E30.dropB;have E32:=Z (E31.addNil);go_wp2_with (refine aB E32 (by simp) (by simp) (by decide) rfl rfl ?_;intro v33 w33 E33);refine Z ?_;go_wp2_with fail;go_meet;exact⟨at27,_,E33,Z ⟨(jl (by have:=E33.st.lt;omega) HG12.1 HG12.2.1 HG14.out HG23.1 HG23.2.1 HG25.out HG27.1 HG27.2.1).1,(jl (by have:=E33.st.lt;omega) HG12.1 HG12.2.1 HG14.out HG23.1 HG23.2.1 HG25.out HG27.1 HG27.2.1).2.1,by have:=HL12.out;have:=HL14.out;have:=HL27.out;have:=HL23.out;have:=HL25.out;simp;omega,(jl (by have:=E33.st.lt;omega) HG12.1 HG12.2.1 HG14.out HG23.1 HG23.2.1 HG25.out HG27.1 HG27.2.1).2.2,by simp,by have:=HL12.out;have:=HL14.out;have:=HL27.out;have:=HL23.out;have:=HL25.out;omega⟩⟩
   ·have H13:=Z h13;clear h13;go_wp2_with fail;refine(ap c (at12) mild _ E13.st).mono ?_;rintro e wq ⟨ch,rfl,hS,F⟩;go_wp2_with fail;exact⟨rfl,.inr (E13.pan ⟨ch,rfl,hS,F⟩)⟩
 case rest=>
  obtain⟨a4,l4,E4,R4⟩:=hcut;go_upto_if 49 with(go_at_call 22;refine(bG c _ a4 mild _ E4.st).mono ?_;rintro e wb ⟨rfl,kk⟩);have E5:=Z (E4.keep kk);clear kk;go_cut [3,6] from 48 to 54 (fun u v wr=>∃ (a:Nat) (l:List Nd) (b:Bool),v= .bool b∧Hid (Env c a mild w [(w.heap.size,#[.int .i64 0,.int .i64 0,.int .i64 0,.string ⟨#[]⟩,.int .u64 0,.slice none 0 0])] [(u,l)] wr)∧Hid (zB c at_ a l))
  case first=>
   cases h1:aH (tk c.ts a4) {data:=#[58]}
   ·clear h1;go_wp2_with fail;go_meet;exact⟨a4,_,_,rfl,E5,Z R4⟩
   ·clear h1;go_wp2_with fail;refine nC (ak c _ (a4) mild _ E5.st) E5 (fun _ _ p=>?_) (fun w34 at34 k34 f34 l34 t34 n34 ka34 kn34 kc34 HG34 HL34 E34=>?_)
    ·go_wp2_with fail;exact⟨rfl,.inr p⟩
    go_wp2_with (refine aB E34 (E4.sm R4.2.2.1) (by simp) (by decide) rfl rfl ?_;intro v35 w35 E35);refine Z ?_;go_wp2_with fail;obtain⟨r1,r2,r3,r4,r5,r6⟩:=R4.out;go_meet;exact⟨at34,_,_,rfl,E35,Z ⟨by rw[HG34.1];exact nc r1 (k_ (by have:=HL34.out;have:=E35.st.lt;omega) HG34.2.1 (by decide) (by decide)).1 (aF HG34.2.1 (by decide)),by rw[HG34.1];exact(k_ (by have:=HL34.out;have:=E35.st.lt;omega) HG34.2.1 (by decide) (by decide)).2,by have:=HL34.out;simp;omega,r4,by simp,by have:=HL34.out;omega⟩⟩
  case rest=>
   obtain⟨a6,l6,colon,rfl,E6,R6⟩:=hcut;go_wp2_with fail;refine bO E6 (fun w61 E61=>?_);cases h61:aH (tk c.ts (a6)) {data:=#[123]}
   ·have H61:=Z h61;clear h61;go_wp2_with fail;refine bO E61 (fun w62 E62=>?_);cases h62:aH (tk c.ts (a6)) {data:=#[60]}
    ·have H62:=Z h62;clear h62;go_wp2_with fail;refine bO E62 (fun w63 E63=>?_);cases h63:aH (tk c.ts (a6)) {data:=#[91]}
     ·have H63:=Z h63;clear h63;go_wp2_with fail
      ·refine(bh c (a6) mild _ E63.st).mono ?_;rintro e wq ⟨ch,rfl,hS,F⟩;go_wp2_with fail;exact⟨rfl,.inr (E63.pan ⟨ch,rfl,hS,F⟩)⟩
      ·refine nC (fK c (a6) mild _ E63.st) E63 (fun _ _ p=>?_) (fun w64 at64 k64 f64 l64 t64 n64 ka64 kn64 kc64 HG64 HL64 E64=>?_)
       ·go_wp2_with fail;exact⟨rfl,.inr p⟩
       go_wp2_with (refine aB E64 (E6.sm R6.2.2.1) (by simp) (by decide) rfl rfl ?_;intro v65 w65 E65);refine Z ?_;go_wp2_with fail;obtain⟨g66,kc66,hv,-,-,-⟩:=E65.k1.big (by simp);subst hv;refine kC (node_any w.heap.size 27 _ _ _ E65.k1 (by simp) (E65.sm (by have:=R6.2.2.1;have:=HL64.out;simp;omega))) E65 (fun w66 E66=>?_);go_wp2_with (refine aw E66.z1 rfl rfl rfl ?_);refine qh (aN rfl (setRow_heap _ _ _ _ _ _ E66.z1) rfl) rfl ?_;exact .inl ⟨at64,_,_,_,_,_,_,_,_,rfl,(E66.fin qr _).1,(E66.fin qr _).2,by have:=HL64.out;have:=R6.2.2.2.2.2;omega,⟨(R6.1.trans HG64 (NGa.prev R6.2.1)).set.inr,R6.2.2.2.1⟩⟩
     ·have H63:=Z h63;clear h63;go_wp2_with fail;refine nC (vo c colon (a6) mild _ E63.st (fun a m w ha hs=>HLit.at a (by have:=R6.2.2.2.2.2;omega) m w hs)) E63 (fun _ _ p=>?_) (fun w67 at67 k67 f67 l67 t67 n67 ka67 kn67 kc67 HG67 HL67 E67=>?_)
      ·go_wp2_with fail;exact⟨rfl,.inr p⟩
      go_wp2_with (refine aB E67 (E6.sm R6.2.2.1) (by simp) (by decide) rfl rfl ?_;intro v68 w68 E68);refine Z ?_;go_wp2_with fail;obtain⟨g69,kc69,hv,-,-,-⟩:=E68.k1.big (by simp);subst hv;refine kC (node_any w.heap.size 27 _ _ _ E68.k1 (by simp) (E68.sm (by have:=R6.2.2.1;have:=HL67.out;simp;omega))) E68 (fun w69 E69=>?_);go_wp2_with (refine aw E69.z1 rfl rfl rfl ?_);refine qh (aN rfl (setRow_heap _ _ _ _ _ _ E69.z1) rfl) rfl ?_;exact .inl ⟨at67,_,_,_,_,_,_,_,_,rfl,(E69.fin qr _).1,(E69.fin qr _).2,by have:=HL67.out;have:=R6.2.2.2.2.2;omega,⟨(R6.1.trans HG67.1 (NGa.prev R6.2.1)).set.inr,R6.2.2.2.1⟩⟩
    ·have H62:=Z h62;clear h62;go_wp2_with fail;refine nC ((HLit.at a6 (Nat.le_of_lt R6.2.2.2.2.2) mild) _ E62.st) E62 (fun _ _ p=>?_) (fun w70 at70 k70 f70 l70 t70 n70 ka70 kn70 kc70 HG70 HL70 E70=>?_)
     ·go_wp2_with fail;exact⟨rfl,.inr p⟩
     go_wp2_with (refine aB E70 (E6.sm R6.2.2.1) (by simp) (by decide) rfl rfl ?_;intro v71 w71 E71);refine Z ?_;go_wp2_with fail;obtain⟨g72,kc72,hv,-,-,-⟩:=E71.k1.big (by simp);subst hv;refine kC (node_any w.heap.size 27 _ _ _ E71.k1 (by simp) (E71.sm (by have:=R6.2.2.1;have:=HL70.out;simp;omega))) E71 (fun w72 E72=>?_);go_wp2_with (refine aw E72.z1 rfl rfl rfl ?_);refine qh (aN rfl (setRow_heap _ _ _ _ _ _ E72.z1) rfl) rfl ?_;exact .inl ⟨at70,_,_,_,_,_,_,_,_,rfl,(E72.fin qr _).1,(E72.fin qr _).2,by have:=HL70.out;have:=R6.2.2.2.2.2;omega,⟨(R6.1.trans_set HG70.1 (NGa.of HG70.2.2)).inr,R6.2.2.2.1⟩⟩
   ·have H61:=Z h61;clear h61;go_wp2_with fail;refine nC ((HLit.at a6 (Nat.le_of_lt R6.2.2.2.2.2) mild) _ E61.st) E61 (fun _ _ p=>?_) (fun w73 at73 k73 f73 l73 t73 n73 ka73 kn73 kc73 HG73 HL73 E73=>?_)
    ·go_wp2_with fail;exact⟨rfl,.inr p⟩
    go_wp2_with (refine aB E73 (E6.sm R6.2.2.1) (by simp) (by decide) rfl rfl ?_;intro v74 w74 E74);refine Z ?_;go_wp2_with fail;obtain⟨g75,kc75,hv,-,-,-⟩:=E74.k1.big (by simp);subst hv;refine kC (node_any w.heap.size 27 _ _ _ E74.k1 (by simp) (E74.sm (by have:=R6.2.2.1;have:=HL73.out;simp;omega))) E74 (fun w75 E75=>?_);go_wp2_with (refine aw E75.z1 rfl rfl rfl ?_);refine qh (aN rfl (setRow_heap _ _ _ _ _ _ E75.z1) rfl) rfl ?_;exact .inl ⟨at73,_,_,_,_,_,_,_,_,rfl,(E75.fin qr _).1,(E75.fin qr _).2,by have:=HL73.out;have:=R6.2.2.2.2.2;omega,⟨(R6.1.trans_set HG73.1 (NGa.of HG73.2.2)).inr,R6.2.2.2.1⟩⟩
theorem mZ{c:PC}{a a1 a2 a3:Nat}{b b':UInt8}(hb:(b=123∧b'=125)∨(b=60∧b'=62))(h3:a3≤c.ts.length)(e1:a1=a+1)(s1:aH (tk c.ts a) ⟨#[b]⟩=true)(o:InR c.ts a1 a2)(e3:a3=a2+1)(s3:aH (tk c.ts a2) ⟨#[b']⟩=true):
  SetR c.ts a a3∧(tk c.ts (a3-1)).kind≠2∧aH (tk c.ts a) ⟨#[45]⟩=false:=by
 subst e1;subst e3;have hle:=o.seg.le;have y1:=c.sym (i:=a) (by omega) s1 (by rcases hb with⟨rfl,rfl⟩|⟨rfl,rfl⟩<;>decide);have y3:=c.sym (i:=a2) (by omega) s3 (by rcases hb with⟨rfl,rfl⟩|⟨rfl,rfl⟩<;>decide);exact⟨SetR.wrap y1 y3 (by rcases hb with⟨rfl,rfl⟩|⟨rfl,rfl⟩<;>simp) o,by rw[show a2+1-1=a2 from rfl,y3.1];decide,aF s1 (by rcases hb with⟨rfl,rfl⟩|⟨rfl,rfl⟩<;>decide)⟩
theorem lQ{c:PC}{a0 a a1:Nat}{b:UInt8}(hb:b=44∨b=59)(h1:a1≤c.ts.length)(o:InR c.ts a0 a)(e1:a1=a+1)(s:aH (tk c.ts a) ⟨#[b]⟩=true):InR c.ts a0 a1:=by
 subst e1;rcases hb with rfl|rfl
 ·exact o.trans (k_ (by omega) s (by decide) (by decide)).1.set.inr (NGa.of (aF s (by decide)))
 ·exact o.trans (Dcl.empty (c.sym (by omega) s (by decide))).inr (NGa.of (aF s (by decide)))
theorem lK(c:PC)(at_:Nat)(mild:Bool)(w:World)(h:PSt c at_ mild w)(hlit:LitGe c (at_+1)):
  Calls prog 143 #[.pointer (some ⟨c.bp,0,none⟩)] w (NPost c at_ mild w (yc c at_)):=by
 have E0:=Z (Env.start h);clear h;have HLit:=Z hlit;clear hlit;go_enter func143,ntmps143;go_wp2_with fail;have E1:=Z (E0.allocZ);have E2:=E1.addNew [] #[] rfl (by simp);rw[World.size_alloc] at E2;have E2:=Z E2;refine bO E2 (fun w3 E3=>?_);cases h3:aH (tk c.ts (at_)) {data:=#[60]}
 ·have H3:=Z h3;clear h3;go_wp2_with fail;refine nC (ak c _ (at_) mild _ E3.st) E3 (fun _ _ p=>?_) (fun w4 at4 k4 f4 l4 t4 n4 ka4 kn4 kc4 HG4 HL4 E4=>?_)
  ·go_wp2_with fail;exact⟨rfl,.inr p⟩
  go_wp2_with (refine aB E4 (by simp) (by simp) (by decide) rfl rfl ?_;intro v5 w5 E5);refine Z ?_;go_wp2_with fail;go_loopw [3] (fun u wr=>∃ (a:Nat) (l:List Nd),Hid (Env c a mild w [(w.heap.size,#[.int .i64 0,.int .i64 0,.int .i64 0,.string ⟨#[]⟩,.int .u64 0,.slice none 0 0])] [(u,l)] wr)∧Hid (InR c.ts at4 a∧l≠[]∧l.length≤a∧at_<a)) (fun _ wr=>c.ts.length-gT c wr)
  case atStart=>exact⟨at4,_,E5,Z ⟨InR.nil,by simp,by have:=HL4.out;simp;omega,HL4.out⟩⟩
  case round=>
   obtain⟨a,l,ER,HR⟩:=hrel;go_wp2_with fail;refine bO ER (fun w6 E6=>?_);cases h6:aH (tk c.ts (a)) ({data:=#[125]}:ByteArray)
   ·have H6:=Z h6;clear h6;go_wp2_with fail;refine nC (kL c (a) mild _ E6.st (fun a' m' w' ha' hs'=>HLit a' m' w' (by have:=HR.2.2.2;omega) hs')) E6 (fun _ _ p=>?_) (fun w7 at7 k7 f7 l7 t7 n7 ka7 kn7 kc7 HG7 HL7 E7=>?_)
    ·go_wp2_with fail;exact⟨rfl,.inr p⟩
    go_wp2_with (refine aB E7 (E7.sm (by have:=HR.2.2.1;have:=HL7.out;simp;omega)) (by simp) (by decide) rfl rfl ?_;intro v8 w8 E8);refine Z ?_;go_wp2_with fail;refine bO E8 (fun w9 E9=>?_);cases h9:aH (tk c.ts (at7)) {data:=#[44]}
    ·have H9:=Z h9;clear h9;go_wp2_with fail;refine bO E9 (fun w10 E10=>?_);cases h10:aH (tk c.ts (at7)) {data:=#[59]}
     ·have H10:=Z h10;clear h10;go_wp2_with fail;obtain⟨r1,r2,r3,r4⟩:=HR.out;go_roundw
      case rel=>exact⟨at7,_,E10,Z ⟨(r1.trans HG7.1 (NGa.of HG7.2)),by simp,by have:=HL7.out;simp;omega,by have:=HL7.out;omega⟩⟩
      case measure=>
        have e1:=aE ER.st;have e2:=aE E10.st;have:=HL7.out;have:=E10.st.lt;rw[e1,e2];omega
     ·have H10:=Z h10;clear h10;go_wp2_with fail;refine nC (bm c 39 (at7) mild _ E10.st (bH H10)) E10 (fun _ _ p=>?_) (fun w11 at11 k11 f11 l11 t11 n11 ka11 kn11 kc11 HG11 HL11 E11=>?_)
      ·go_wp2_with fail;exact⟨rfl,.inr p⟩
      go_wp2_with (refine aB E11 (E11.sm (by have:=HR.2.2.1;have:=HL7.out;have:=HL11.out;simp;omega)) (by simp) (by decide) rfl rfl ?_;intro v12 w12 E12);refine Z ?_;go_wp2_with fail;obtain⟨r1,r2,r3,r4⟩:=HR.out;go_roundw
      case rel=>exact⟨at11,_,E12,Z ⟨lQ (.inr rfl) (by have:=E12.st.lt;omega) (r1.trans HG7.1 (NGa.of HG7.2)) HG11.1 H10.out,by simp,by have:=HL7.out;have:=HL11.out;simp;omega,by have:=HL7.out;have:=HL11.out;omega⟩⟩
      case measure=>
        have e1:=aE ER.st;have e2:=aE E12.st;have:=HL7.out;have:=HL11.out;have:=E12.st.lt;rw[e1,e2];omega
    ·have H9:=Z h9;clear h9;go_wp2_with fail;refine nC (bm c 39 (at7) mild _ E9.st (bH H9)) E9 (fun _ _ p=>?_) (fun w13 at13 k13 f13 l13 t13 n13 ka13 kn13 kc13 HG13 HL13 E13=>?_)
     ·go_wp2_with fail;exact⟨rfl,.inr p⟩
     go_wp2_with (refine aB E13 (E13.sm (by have:=HR.2.2.1;have:=HL7.out;have:=HL13.out;simp;omega)) (by simp) (by decide) rfl rfl ?_;intro v14 w14 E14);refine Z ?_;go_wp2_with fail;obtain⟨r1,r2,r3,r4⟩:=HR.out;go_roundw
     case rel=>exact⟨at13,_,E14,Z ⟨lQ (.inl rfl) (by have:=E14.st.lt;omega) (r1.trans HG7.1 (NGa.of HG7.2)) HG13.1 H9.out,by simp,by have:=HL7.out;have:=HL13.out;simp;omega,by have:=HL7.out;have:=HL13.out;omega⟩⟩
     case measure=>
       have e1:=aE ER.st;have e2:=aE E14.st;have:=HL7.out;have:=HL13.out;have:=E14.st.lt;rw[e1,e2];omega
   ·have H6:=Z h6;clear h6;go_wp2_with fail;refine nC (ak c _ (a) mild _ E6.st) E6 (fun _ _ p=>?_) (fun w15 at15 k15 f15 l15 t15 n15 ka15 kn15 kc15 HG15 HL15 E15=>?_)
    ·go_wp2_with fail;exact⟨rfl,.inr p⟩
    go_wp2_with (refine aB E15 (E15.sm (by have:=HR.2.2.1;have:=HL15.out;simp;omega)) (by simp) (by decide) rfl rfl ?_;intro v16 w16 E16);refine Z ?_;go_wp2_with fail;obtain⟨g17,kc17,hv,-,-,-⟩:=E16.k1.big (by simp);subst hv;refine kC (node_any w.heap.size 26 _ _ _ E16.k1 (by simp) (E16.sm (by have:=HR.2.2.1;have:=HL15.out;simp;omega))) E16 (fun w17 E17=>?_);obtain⟨r1,r2,r3,r4⟩:=HR.out;go_wp2_with (refine aw E17.z1 rfl rfl rfl ?_);refine qh (aN rfl (setRow_heap _ _ _ _ _ _ E17.z1) rfl) rfl ?_;exact .inl ⟨at15,_,_,_,_,_,_,_,_,rfl,(E17.fin qr _).1,(E17.fin qr _).2,by have:=HL4.out;have:=HL15.out;omega,mZ (b:=123) (b':=125) (by simp) (by have:=E17.st.lt;omega) HG4.1 HG4.2.1 r1 HG15.1 HG15.2.1⟩
 ·have H3:=Z h3;clear h3;go_wp2_with fail;refine nC (ak c _ (at_) mild _ E3.st) E3 (fun _ _ p=>?_) (fun w18 at18 k18 f18 l18 t18 n18 ka18 kn18 kc18 HG18 HL18 E18=>?_)
  ·go_wp2_with fail;exact⟨rfl,.inr p⟩
  go_wp2_with (refine aB E18 (by simp) (by simp) (by decide) rfl rfl ?_;intro v19 w19 E19);refine Z ?_;go_wp2_with fail;go_loopw [3] (fun u wr=>∃ (a:Nat) (l:List Nd),Hid (Env c a mild w [(w.heap.size,#[.int .i64 0,.int .i64 0,.int .i64 0,.string ⟨#[]⟩,.int .u64 0,.slice none 0 0])] [(u,l)] wr)∧Hid (InR c.ts at18 a∧l≠[]∧l.length≤a∧at_<a)) (fun _ wr=>c.ts.length-gT c wr)
  case atStart=>exact⟨at18,_,E19,Z ⟨InR.nil,by simp,by have:=HL18.out;simp;omega,HL18.out⟩⟩
  case round=>
   obtain⟨a,l,ER,HR⟩:=hrel;go_wp2_with fail;refine bO ER (fun w20 E20=>?_);cases h20:aH (tk c.ts (a)) ({data:=#[62]}:ByteArray)
   ·have H20:=Z h20;clear h20;go_wp2_with fail;refine nC (kL c (a) mild _ E20.st (fun a' m' w' ha' hs'=>HLit a' m' w' (by have:=HR.2.2.2;omega) hs')) E20 (fun _ _ p=>?_) (fun w21 at21 k21 f21 l21 t21 n21 ka21 kn21 kc21 HG21 HL21 E21=>?_)
    ·go_wp2_with fail;exact⟨rfl,.inr p⟩
    go_wp2_with (refine aB E21 (E21.sm (by have:=HR.2.2.1;have:=HL21.out;simp;omega)) (by simp) (by decide) rfl rfl ?_;intro v22 w22 E22);refine Z ?_;go_wp2_with fail;refine bO E22 (fun w23 E23=>?_);cases h23:aH (tk c.ts (at21)) {data:=#[44]}
    ·have H23:=Z h23;clear h23;go_wp2_with fail;refine bO E23 (fun w24 E24=>?_);cases h24:aH (tk c.ts (at21)) {data:=#[59]}
     ·have H24:=Z h24;clear h24;go_wp2_with fail;obtain⟨r1,r2,r3,r4⟩:=HR.out;go_roundw
      case rel=>exact⟨at21,_,E24,Z ⟨(r1.trans HG21.1 (NGa.of HG21.2)),by simp,by have:=HL21.out;simp;omega,by have:=HL21.out;omega⟩⟩
      case measure=>
        have e1:=aE ER.st;have e2:=aE E24.st;have:=HL21.out;have:=E24.st.lt;rw[e1,e2];omega
     ·have H24:=Z h24;clear h24;go_wp2_with fail;refine nC (bm c 39 (at21) mild _ E24.st (bH H24)) E24 (fun _ _ p=>?_) (fun w25 at25 k25 f25 l25 t25 n25 ka25 kn25 kc25 HG25 HL25 E25=>?_)
      ·go_wp2_with fail;exact⟨rfl,.inr p⟩
      go_wp2_with (refine aB E25 (E25.sm (by have:=HR.2.2.1;have:=HL21.out;have:=HL25.out;simp;omega)) (by simp) (by decide) rfl rfl ?_;intro v26 w26 E26);refine Z ?_;go_wp2_with fail;obtain⟨r1,r2,r3,r4⟩:=HR.out;go_roundw
      case rel=>exact⟨at25,_,E26,Z ⟨lQ (.inr rfl) (by have:=E26.st.lt;omega) (r1.trans HG21.1 (NGa.of HG21.2)) HG25.1 H24.out,by simp,by have:=HL21.out;have:=HL25.out;simp;omega,by have:=HL21.out;have:=HL25.out;omega⟩⟩
      case measure=>
        have e1:=aE ER.st;have e2:=aE E26.st;have:=HL21.out;have:=HL25.out;have:=E26.st.lt;rw[e1,e2];omega
    ·have H23:=Z h23;clear h23;go_wp2_with fail;refine nC (bm c 39 (at21) mild _ E23.st (bH H23)) E23 (fun _ _ p=>?_) (fun w27 at27 k27 f27 l27 t27 n27 ka27 kn27 kc27 HG27 HL27 E27=>?_)
     ·go_wp2_with fail;exact⟨rfl,.inr p⟩
     go_wp2_with (refine aB E27 (E27.sm (by have:=HR.2.2.1;have:=HL21.out;have:=HL27.out;simp;omega)) (by simp) (by decide) rfl rfl ?_;intro v28 w28 E28);refine Z ?_;go_wp2_with fail;obtain⟨r1,r2,r3,r4⟩:=HR.out;go_roundw
     case rel=>exact⟨at27,_,E28,Z ⟨lQ (.inl rfl) (by have:=E28.st.lt;omega) (r1.trans HG21.1 (NGa.of HG21.2)) HG27.1 H23.out,by simp,by have:=HL21.out;have:=HL27.out;simp;omega,by have:=HL21.out;have:=HL27.out;omega⟩⟩
     case measure=>
       have e1:=aE ER.st;have e2:=aE E28.st;have:=HL21.out;have:=HL27.out;have:=E28.st.lt;rw[e1,e2];omega
   ·have H20:=Z h20;clear h20;go_wp2_with fail;refine nC (ak c _ (a) mild _ E20.st) E20 (fun _ _ p=>?_) (fun w29 at29 k29 f29 l29 t29 n29 ka29 kn29 kc29 HG29 HL29 E29=>?_)
    ·go_wp2_with fail;exact⟨rfl,.inr p⟩
    go_wp2_with (refine aB E29 (E29.sm (by have:=HR.2.2.1;have:=HL29.out;simp;omega)) (by simp) (by decide) rfl rfl ?_;intro v30 w30 E30);refine Z ?_;go_wp2_with fail;obtain⟨g31,kc31,hv,-,-,-⟩:=E30.k1.big (by simp);subst hv;refine kC (node_any w.heap.size 26 _ _ _ E30.k1 (by simp) (E30.sm (by have:=HR.2.2.1;have:=HL29.out;simp;omega))) E30 (fun w31 E31=>?_);obtain⟨r1,r2,r3,r4⟩:=HR.out;go_wp2_with (refine aw E31.z1 rfl rfl rfl ?_);refine qh (aN rfl (setRow_heap _ _ _ _ _ _ E31.z1) rfl) rfl ?_;exact .inl ⟨at29,_,_,_,_,_,_,_,_,rfl,(E31.fin qr _).1,(E31.fin qr _).2,by have:=HL18.out;have:=HL29.out;omega,mZ (b:=60) (b':=62) (by simp) (by have:=E31.st.lt;omega) HG18.1 HG18.2.1 r1 HG29.1 HG29.2.1⟩
theorem mY(c:PC):∀ (n a0:Nat),c.ts.length-a0≤n→LitGe c a0:=by
 intro n
 induction n with
 |zero=>
  intro a0 h a m w ha hs;have:=hs.lt;omega
 |succ n ih=>
  intro a0 h a m w ha hs;exact lK c a m w hs (ih (a+1) (by have:=hs.lt;omega))
theorem mX(c:PC)(a:Nat):LitGe c a:=mY c _ a qr
end Go.Proofs.YtnclklfhjbkjhaaGreatDoor
