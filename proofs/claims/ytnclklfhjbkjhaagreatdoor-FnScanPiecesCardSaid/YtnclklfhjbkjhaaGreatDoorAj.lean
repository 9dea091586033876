/- Part of the proof: C6 C7. -/
import Derived.Test.YtnclklfhjbkjhaaGreatDoorAi
set_option maxRecDepth 1000000
set_option maxHeartbeats 40000000
set_option linter.unusedSimpArgs false
namespace Go.Proofs.YtnclklfhjbkjhaaGreatDoor
open Tryz
open Go.RowKit
theorem KOwn.nkf{c:PC}{B b:Nat}{w:World}{v:Value}{l:List Nd}(h:KOwn B w v l)(hb:b<B)(hne:b≠c.bp):¬KF c.bp v b:=by
 rintro(e|e)
 ·exact hne e
 ·have:=(h.lt e).1;omega
theorem KOwn.nown{B b:Nat}{w:World}{v:Value}{l:List Nd}(h:KOwn B w v l)(hb:b<B):¬ (v.ownBlock=some b):=fun e=>by have:=(h.lt e).1;omega
theorem Env.setMild{c:PC}{a:Nat}{m:Bool}{w0 w:World}{bs:List (Nat×Array Value)}{ks:List (Value×List Nd)}(h:Env c a m w0 bs ks w)(m':Bool):Env c a m' w0 bs ks (w.setCell ⟨c.bp,3,none⟩ (.bool m')):=by
 have f:Fr (· =c.bp) w (w.setCell ⟨c.bp,3,none⟩ (.bool m')):=(Fr.refl w).setIn _ rfl;refine h.call ⟨?_,fun i hi j u hu=>Fr.cell f c.ne (h.st.toks i hi j u hu),h.st.lt⟩ f;rw[ag h.st.blk];rfl
theorem mb(c:PC)(at_:Nat)(wo:World)(h:PSt c at_ false wo)(hel:jO c (at_+1)):
  Calls prog 82 #[.pointer (some ⟨c.bp,0,none⟩)] wo (NPost c at_ false wo (pR c at_)):=by
 have hfr:Keep wo (wo.alloc (.cells #[.pointer (some ⟨c.bp,0,none⟩)] 49)):=(Fr.refl wo).alloc _;refine Calls.mono (?_ :Calls prog 82 _ wo (NPost c at_ false (wo.alloc (.cells #[.pointer (some ⟨c.bp,0,none⟩)] 49)) (pR c at_))) (fun e w' hh=>hh.fr hfr.up);have E0:=Z (Env.start (h.keep hfr));have hs:wo.heap.size+1=(wo.alloc (.cells #[.pointer (some ⟨c.bp,0,none⟩)] 49)).heap.size:=by simp
 have Q1:(wo.alloc (.cells #[.pointer (some ⟨c.bp,0,none⟩)] 49)).cell? ⟨wo.heap.size,0,none⟩=some (.pointer (some ⟨c.bp,0,none⟩)):=by
  have:=ab (ql wo (.cells #[.pointer (some ⟨c.bp,0,none⟩)] 49)) 0;exact this
 have Q1:=Z Q1;have N1:=Z (show wo.heap.size≠c.bp from by have:=h.bp;omega);have hs1:wo.heap.size< (wo.alloc (.cells #[.pointer (some ⟨c.bp,0,none⟩)] 49)).heap.size:=by simp only[World.size_alloc];omega
 have HB1:=Z hs1;clear hs1;have HS:=Z hs;clear h hfr hs;have HE:=Z hel;clear hel;go_enter func82,ntmps82;go_wp2_with fail;have hs:=HS.out;rw[hs];clear hs;generalize(wo.alloc (.cells #[.pointer (some ⟨c.bp,0,none⟩)] 49))=w at*
 generalize wo.heap.size=b1 at*
 clear HS;have E1:=Z (E0.allocZ);refine bO E1 (fun w2 E2=>?_);have q0:=Fr.cell E2.fr N1 Q1.out;cases hK:aH (tk c.ts at_) {data:=#[111,112,116,105,111,110]};rotate_left
 ·skip
  go_wp2_with fail;clear q0;refine nC (cL c (at_) false _ E2.st) E2 (fun _ _ p=>?_) (fun w3 at3 k3 f3 l3 t3 n3 ka3 kn3 kc3 HG3 HL3 E3=>?_)
  ·go_wp2_with fail;exact⟨rfl,.inr p⟩
  have q0:=Fr.cell E3.fr N1 Q1.out;go_wp2_with (refine aw E3.z1 rfl rfl rfl ?_);exact aS E3 HL3 (Dcl.el HG3.1) rfl rfl rfl
 clear hK;go_wp2_with fail;refine bO E2 (fun w3 E3=>?_);clear q0;have q0:=Fr.cell E3.fr N1 Q1.out;cases hK:aH (tk c.ts at_) {data:=#[109,101,115,115,97,103,101]};rotate_left
 ·skip
  go_wp2_with fail;clear q0;refine nC (ij c (at_) _ E3.st HE) E3 (fun _ _ p=>?_) (fun w4 at4 k4 f4 l4 t4 n4 ka4 kn4 kc4 HG4 HL4 E4=>?_)
  ·go_wp2_with fail;exact⟨rfl,.inr p⟩
  have q0:=Fr.cell E4.fr N1 Q1.out;go_wp2_with (refine aw E4.z1 rfl rfl rfl ?_);exact aS E4 HL4 (Dcl.el HG4.1) rfl rfl rfl
 clear hK;go_wp2_with fail;refine bO E3 (fun w4 E4=>?_);clear q0;have q0:=Fr.cell E4.fr N1 Q1.out;cases hK:aH (tk c.ts at_) {data:=#[101,110,117,109]};rotate_left
 ·skip
  go_wp2_with fail;clear q0;refine nC (nB c (at_) false _ E4.st) E4 (fun _ _ p=>?_) (fun w5 fS k5 f5 l5 t5 n5 ka5 kn5 kc5 HG5 HL5 E5=>?_)
  ·go_wp2_with fail;exact⟨rfl,.inr p⟩
  have q0:=Fr.cell E5.fr N1 Q1.out;go_wp2_with (refine aw E5.z1 rfl rfl rfl ?_);exact aS E5 HL5 (Dcl.el HG5.1) rfl rfl rfl
 clear hK;go_wp2_with fail;refine bO E4 (fun w5 E5=>?_);clear q0;have q0:=Fr.cell E5.fr N1 Q1.out;cases hK:aH (tk c.ts at_) {data:=#[101,120,116,101,110,100]};rotate_left
 ·skip
  go_wp2_with fail;clear q0;refine nC (js c (at_) _ E5.st HE) E5 (fun _ _ p=>?_) (fun w6 at6 k6 f6 l6 t6 n6 ka6 kn6 kc6 HG6 HL6 E6=>?_)
  ·go_wp2_with fail;exact⟨rfl,.inr p⟩
  have q0:=Fr.cell E6.fr N1 Q1.out;go_wp2_with (refine aw E6.z1 rfl rfl rfl ?_);exact aS E6 HL6 (Dcl.el HG6.1) rfl rfl rfl
 clear hK;go_wp2_with fail;refine bO E5 (fun w6 E6=>?_);clear q0;have q0:=Fr.cell E6.fr N1 Q1.out;cases hK:aH (tk c.ts at_) {data:=#[101,120,116,101,110,115,105,111,110,115]};rotate_left
 ·skip
  go_wp2_with fail;clear q0;refine aG (fun x=>Hid (Env c (at_) false w [(w.heap.size,#[.int .i64 0,.int .i64 0,.int .i64 0,.string ⟨#[]⟩,.int .u64 0,.slice none 0 0])] [] x)) E6 ?_;intro x7 X7;go_cut [3] (fun u wr=>∃ (a:Nat) (l:List Nd),Hid (Env c a false w [(w.heap.size,#[.int .i64 0,.int .i64 0,.int .i64 0,.string ⟨#[]⟩,.int .u64 0,.slice none 0 0])] [(u,l)] wr)∧Hid (at_<a∧l.length≤a∧l≠[]∧IP c at_ a false))
  case first=>
   have Y7:=Z (X7.keep ((Fr.refl x7).drew));have yb1:x7.drew.cell? ⟨b1,0,none⟩=some (.pointer (some ⟨c.bp,0,none⟩)):=Fr.cell Y7.fr N1 Q1.out;go_region_held2 (fun w'=>w'.cell? ⟨b1,0,none⟩=some (.pointer (some ⟨c.bp,0,none⟩)))
    (first|with_reducible exact yb1|with_reducible exact Fr.cell F5 N1.out yb1|with_reducible exact aD (Fr.cell F5 N1.out yb1)|with_reducible exact Fr.cell F7 NK (aD (Fr.cell F5 N1.out yb1)))
    (first|(go_at_call 47;refine(aY c _ at_ false _ Y7.st).mono ?_;rintro e w8 (⟨at8,k8,f8,l8,t8,n8,ka8,kn8,kc8,rfl,hP5,F5,hlt5,hG5⟩|⟨ch,rfl,hS,F⟩);rotate_left;(exact⟨rfl,.inr (Y7.pan ⟨ch,rfl,hS,F⟩)⟩))|(go_at_call 115;have EW:=Z ((Y7.call hP5 F5).addNew [Nd.mk k8 f8 l8 t8 n8 ka8 kn8 kc8] #[.int .i64 k8,.int .i64 f8,.int .i64 l8,.string t8,.int .u64 n8,.slice ka8 kn8 kc8] rfl (by simp));have NK:=EW.k1.nkf HB1.out N1.out;have hin:(fun w':World=>w'.cell? ⟨b1,0,none⟩=some (.pointer (some ⟨c.bp,0,none⟩))) _:=aD (o:= .cells #[.int .i64 k8,.int .i64 f8,.int .i64 l8,.string t8,.int .u64 n8,.slice ka8 kn8 kc8] 26) (Fr.cell F5 N1.out yb1);refine(dW c 116 #[] #[.pointer (some ⟨b1,0,none⟩)] w.heap.size _ [Nd.mk k8 f8 l8 t8 n8 ka8 kn8 kc8] at8 false _ (SetR c.ts) (fun w':World=>w'.cell? ⟨b1,0,none⟩=some (.pointer (some ⟨c.bp,0,none⟩))) (fun _ _ hi f=>cY hi HB1.out N1.out (fun g hg=>(EW.k1.lt hg).1) EW.fr.size f) hin (fun _ _=>by kernel_rfl) (fun a w1 ha hs hi=>(mc c a false w1 hs b1 hi).mono fun e w' hh=>hh.imp (fun⟨at',k,f,l,t,n,ka,kn,kc,h1,h2,h3,h4,h5⟩=>⟨at',k,f,l,t,n,ka,kn,kc,h1,h2,h3,h4,Out.set h5⟩) id) EW.st EW.k1 EW.bp0 EW.bt0 EW.fr.size (by simp;omega)).mono ?_;rintro e w9 (⟨at9,v9,l9,rfl,hP7,hO7,hN7,F7,hS7,hlt7,hlen7,hG7⟩|⟨ch,rfl,hS,F⟩);rotate_left;(exact⟨rfl,.inr (EW.lpan hS F)⟩)))
   all_goals
    go_wp2_with fail;go_meet;exact⟨at9,_,Z (EW.lst hP7 hO7 F7 hS7),Z ⟨by omega,hlen7,by simp,((IP.nil (c:=c) (i:=at_) (e:=true)).word (by have:=hP7.lt;omega) (qp _) (by decide) hG5).ext (fm (fun _ _ _ h=>h) hG7 (by have:=hP7.lt;omega)).1 hlt7 (.inl rfl) (fun h=>by cases h)⟩⟩
  case rest=>
   obtain⟨a1,l1,EA,RA⟩:=hcut;go_wp2_with fail;have YA:=Z (EA.keep ((Fr.refl wc).drew));have yb1:wc.drew.cell? ⟨b1,0,none⟩=some (.pointer (some ⟨c.bp,0,none⟩)):=Fr.cell YA.fr N1 Q1.out;go_cut [3] (fun u wr=>∃ (a:Nat) (l:List Nd) (m:Bool),Hid (Env c a m w [(w.heap.size,#[.int .i64 0,.int .i64 0,.int .i64 0,.string ⟨#[]⟩,.int .u64 0,.slice none 0 0])] [(u,l)] wr)∧Hid (at_<a∧l.length≤a∧l≠[]∧IP c at_ a false))
   case first=>
    go_region_held2 (fun w'=>w'.cell? ⟨b1,0,none⟩=some (.pointer (some ⟨c.bp,0,none⟩)))
     (first|with_reducible exact yb1|with_reducible exact Keep.cell k6 yb1|exact nF (Keep.cell k6 yb1) N1.out)
     (first|(go_at_call 22;refine(bG c _ a1 false _ YA.st).mono ?_;rintro e w6 ⟨rfl,k6⟩;obtain⟨hb6,-,-,-,-,-,-,m6,-,-,g6,-⟩:=(YA.keep k6).st.facts))
    all_goals
     go_wp2_with fail;go_meet;exact⟨a1,l1,_,Z ((YA.keep k6).setMild _),RA⟩
   case rest=>
    clear YA yb1 EA RA;obtain⟨a2,l2,m2,EB,RB⟩:=hcut;go_wp2_with fail;have YB:=Z (EB.keep ((Fr.refl wc).drew));have yb1:wc.drew.cell? ⟨b1,0,none⟩=some (.pointer (some ⟨c.bp,0,none⟩)):=Fr.cell YB.fr N1 Q1.out;have NK:=YB.k1.nkf HB1 N1.out;go_cut [3] (fun u wr=>∃ (a:Nat) (l:List Nd) (m:Bool),Hid (Env c a m w [(w.heap.size,#[.int .i64 0,.int .i64 0,.int .i64 0,.string ⟨#[]⟩,.int .u64 0,.slice none 0 0])] [(u,l)] wr)∧Hid (at_<a∧l.length≤a∧l≠[]∧IP c at_ a true))
    case first=>
     go_region_held2 (fun w'=>w'.cell? ⟨b1,0,none⟩=some (.pointer (some ⟨c.bp,0,none⟩)))
      (first|with_reducible exact yb1|with_reducible exact Fr.cell F5 NK yb1|with_reducible exact Fr.cell F6 N1.out (Fr.cell F5 NK yb1)|with_reducible exact aD (Fr.cell F6 N1.out (Fr.cell F5 NK yb1))|with_reducible exact Fr.cell f3 NO (aD (Fr.cell F6 N1.out (Fr.cell F5 NK yb1))))
      (first|(go_at_call 87;refine(aW c w.heap.size _ _ RB.2.2.1 a2 m2 _ YB.st YB.k1 YB.bp0 YB.bt0 YB.fr.size RB.2.1).mono ?_;rintro e w5 (⟨fS,v5,l5,rfl,hP5,hO5,hN5,F5,hS5,hlt5,hlen5,hG5⟩|⟨ch,rfl,hS,F⟩);rotate_left;(exact⟨rfl,.inr (YB.lpan hS F)⟩))|(go_at_call 48;have EC:=Z (YB.lst hP5 hO5 F5 hS5);refine(ak c _ fS m2 _ EC.st).mono ?_;rintro e w6 (⟨at6,kr,fr,lr,tr,nr,kar,knr,kcr,rfl,hP6,F6,hlt6,hG6⟩|⟨ch,rfl,hS,F⟩);rotate_left;(exact⟨rfl,.inr (EC.pan ⟨ch,rfl,hS,F⟩)⟩))|(have NO:=(EC.call hP6 F6).k1.nown HB1.out;refine dR rfl (.tmp 42) (.tmp 45) rfl (v:=v5) rfl ((EC.call hP6 F6).k1.keep ((Fr.refl w6).alloc (.cells #[.int .i64 kr,.int .i64 fr,.int .i64 lr,.string tr,.int .u64 nr,.slice kar knr kcr] 26))) (ql w6 _) rfl (EC.sm hlen5) (Nat.le_trans (EC.call hP6 F6).fr.size (by simp)) ?_;intro v7 w7 o3 f3 s3))
     all_goals
      go_wp2_with fail;go_meet;exact⟨at6,_,_,Z (((EC.call hP6 F6).keep ((Fr.refl w6).alloc _)).grow o3 f3 s3),Z ⟨by have:=RB.1;omega,by simp;omega,by simp,(RB.2.2.2.comp hlt5 hG5).semi (by have:=hP6.lt;omega) hG6⟩⟩
    case rest=>
     clear YB yb1 EB RB NK;obtain⟨a3,l3,m3,ED,RD⟩:=hcut;obtain⟨hb6,-,-,-,-,-,-,m6,-,-,g6,-⟩:=ED.st.facts;have q0:wc.cell? ⟨b1,0,none⟩=some (.pointer (some ⟨c.bp,0,none⟩)):=Fr.cell ED.fr N1 Q1.out;go_wp2_with fail;have EE:=Z (ED.setMild false);clear q0 hb6 m6 g6;obtain⟨g10,kc10,hv,-,-,-⟩:=EE.k1.big (RD.2.2.1);subst hv;refine kC (node_any w.heap.size 19 _ _ _ EE.k1 (RD.2.2.1) (EE.sm RD.2.1)) EE (fun w10 E10=>?_);go_wp2_with (refine aw E10.z1 rfl rfl rfl ?_);refine qh (aN rfl (setRow_heap _ _ _ _ _ _ E10.z1) rfl) rfl ?_;exact .inl ⟨a3,_,_,_,_,_,_,_,_,rfl,(E10.fin qr _).1,(E10.fin qr _).2,RD.1,RD.2.2.2.el RD.1⟩
 clear hK;go_wp2_with fail;refine bO E6 (fun w7 E7=>?_);clear q0;have q0:=Fr.cell E7.fr N1 Q1.out;cases hK:aH (tk c.ts at_) {data:=#[114,101,115,101,114,118,101,100]};rotate_left
 ·skip
  go_wp2_with fail;clear q0;refine nC (ej c false (at_) false _ E7.st) E7 (fun _ _ p=>?_) (fun w8 at8 k8 f8 l8 t8 n8 ka8 kn8 kc8 HG8 HL8 E8=>?_)
  ·go_wp2_with fail;exact⟨rfl,.inr p⟩
  have q0:=Fr.cell E8.fr N1 Q1.out;go_wp2_with (refine aw E8.z1 rfl rfl rfl ?_);exact aS E8 HL8 HG8 rfl rfl rfl
 clear hK;go_wp2_with fail;refine bO E7 (fun w8 E8=>?_);clear q0;have q0:=Fr.cell E8.fr N1 Q1.out;cases hK:aH (tk c.ts at_) {data:=#[111,110,101,111,102]};rotate_left
 ·skip
  go_wp2_with fail;refine nC (aY c _ (at_) false _ E8.st) E8 (fun _ _ p=>?_) (fun w9 at9 k9 f9 l9 t9 n9 ka9 kn9 kc9 HG9 HL9 y=>?_)
  ·go_wp2_with fail;exact⟨rfl,.inr p⟩
  have LT9:=Z (af y.out.z1);have E9:=Z (y.out.alloc #[.int .i64 k9,.int .i64 f9,.int .i64 l9,.string t9,.int .u64 n9,.slice ka9 kn9 kc9]);clear y;clear q0;have q0:=Fr.cell E9.fr N1 Q1.out;go_wp2_with fail;refine(a_ c (at9) false _ E9.st).mono ?_;rintro e w10 (⟨at10,k10,f10,l10,t10,n10,ka10,kn10,kc10,rfl,hP,F,hlt,hG⟩|⟨ch,rfl,hS,F⟩);rotate_left
  ·go_wp2_with fail;exact⟨rfl,.inr (E9.pan ⟨ch,rfl,hS,F⟩)⟩
  have HG10:=Z hG;have HL10:=Z hlt;have LT10:=Z (af (E9.call hP F).z2);have E10:=Z ((E9.call hP F).alloc #[.int .i64 k10,.int .i64 f10,.int .i64 l10,.string t10,.int .u64 n10,.slice ka10 kn10 kc10]);clear hP F hG hlt;clear q0;have q0:=Fr.cell E10.fr N1 Q1.out;go_wp2_with (first|(refine cE E10.z2 rfl ?_)|(refine cE E10.z1 rfl ?_)|(refine bs2 rfl rfl ?_;refine Hid.out ?_));refine Z ?_;have E11:=E10.addNew [Nd.mk k9 f9 l9 t9 n9 ka9 kn9 kc9,Nd.mk k10 f10 l10 t10 n10 ka10 kn10 kc10] #[.int .i64 k9,.int .i64 f9,.int .i64 l9,.string t9,.int .u64 n9,.slice ka9 kn9 kc9,.int .i64 k10,.int .i64 f10,.int .i64 l10,.string t10,.int .u64 n10,.slice ka10 kn10 kc10] rfl (by simp);rw[World.size_alloc] at E11;have E11:=Z E11;clear q0;have q0:=Fr.cell E11.fr N1 Q1.out;go_wp2_with fail;clear q0;refine(dx c 118 #[.pointer (some ⟨c.bp,0,none⟩)] #[] w.heap.size _ _ (by simp) at10 false _ (fun i j=>InR c.ts i j∧(tk c.ts (j-1)).kind≠2) (fun _=>True) (fun _ _ _ _=>trivial) trivial (fun _ _=>by kernel_rfl) (fun a w1 ha hs _=>oD c a w1 hs (fun a' w' ha' hs'=>HE.out a' w' (by have:=HL9.out;have:=HL10.out;omega) hs')) E11.st E11.k1 E11.bp0 E11.bt0 E11.fr.size (by have:=HL9.out;have:=HL10.out;simp;omega)).mono ?_;rintro e w12 (⟨at12,v12,l12,rfl,hP,hO,hN,F,hS,hlt,hlen,hG⟩|⟨ch,rfl,hS,F⟩);rotate_left
  ·go_wp2_with fail;exact⟨rfl,.inr (E11.lpan hS F)⟩
  have HG12:=Z hG;have HL12:=Z hlt;have HM12:=Z hlen;have E12:=Z (E11.lst hP hO F hS);clear hP hO hN F hS hlt hlen hG;have q0:=Fr.cell E12.fr N1 Q1.out;go_wp2_with fail;obtain⟨g13,kc13,hv,-,-,-⟩:=E12.k1.big (by simp);subst hv;refine kC (node_any w.heap.size 15 _ _ _ E12.k1 (by simp) (E12.sm HM12.out)) E12 (fun w13 E13=>?_);clear q0;have I9:=Z (IP.word (IP.nil (e:=true)) (by have:=E13.st.lt;have:=HL10.out;have:=HL12.out;omega) (qp _) (by decide) HG9);have I10:=Z (IP.name I9 (by have:=E13.st.lt;have:=HL12.out;omega) HG10);have hlt:at_<at12:=by have:=HL9.out;have:=HL10.out;have:=HL12.out;omega
  go_wp2_with (refine aw E13.z3 rfl rfl rfl ?_);refine qh (aN rfl (setRow_heap _ _ _ _ _ _ E13.z3) rfl) rfl ?_;exact .inl ⟨at12,_,_,_,_,_,_,_,_,rfl,(E13.fin qr _).1,(E13.fin qr _).2,hlt,(I10.body (fun _ _ h=>h) (by have:=E13.st.lt;omega) HG12).el hlt⟩
 clear hK;go_wp2_with fail;refine bO E8 (fun w9 E9=>?_);clear q0;have q0:=Fr.cell E9.fr N1 Q1.out;cases hK:aH (tk c.ts at_) {data:=#[109,97,112]};rotate_left
 ·skip
  go_wp2_with fail;refine(cS c _ (at_) false _ E9.st).mono ?_;rintro e w10 ⟨⟨b,rfl⟩,kk⟩;have E10:=Z (E9.keep kk);clear kk;clear q0;have q0:=Fr.cell E10.fr N1 Q1.out;cases b
  ·go_wp2_with fail;clear q0;refine nC (d8 c true (at_) _ E10.st HE) E10 (fun _ _ p=>?_) (fun w11 at11 k11 f11 l11 t11 n11 ka11 kn11 kc11 HG11 HL11 E11=>?_)
   ·go_wp2_with fail;exact⟨rfl,.inr p⟩
   have q0:=Fr.cell E11.fr N1 Q1.out;go_wp2_with (refine aw E11.z1 rfl rfl rfl ?_);exact aS E11 HL11 HG11 rfl rfl rfl
  ·go_wp2_with fail;clear q0;refine nC (lJ c (at_) false _ E10.st) E10 (fun _ _ p=>?_) (fun w12 at12 k12 f12 l12 t12 n12 ka12 kn12 kc12 HG12 HL12 E12=>?_)
   ·go_wp2_with fail;exact⟨rfl,.inr p⟩
   have q0:=Fr.cell E12.fr N1 Q1.out;go_wp2_with (refine aw E12.z1 rfl rfl rfl ?_);exact aS E12 HL12 HG12 rfl rfl rfl
 clear hK;go_wp2_with fail;clear q0;refine nC (d8 c true (at_) _ E9.st HE) E9 (fun _ _ p=>?_) (fun w10 at10 k10 f10 l10 t10 n10 ka10 kn10 kc10 HG10 HL10 E10=>?_)
 ·go_wp2_with fail;exact⟨rfl,.inr p⟩
 have q0:=Fr.cell E10.fr N1 Q1.out;go_wp2_with (refine aw E10.z1 rfl rfl rfl ?_);exact aS E10 HL10 HG10 rfl rfl rfl
theorem nD(c:PC):∀ (n a0:Nat),c.ts.length-a0≤n→jO c a0:=by
 intro n
 induction n with
 |zero=>
  intro a0 h a w ha hs;have:=hs.lt;omega
 |succ n ih=>
  intro a0 h a w ha hs;exact mb c a w hs (ih (a+1) (by have:=hs.lt;omega))
theorem il(c:PC)(a:Nat):jO c a:=nD c _ a qr
theorem kX{c:PC}{i i1 i2 j k:Nat}{s:ByteArray}{l:List UInt8}{tl:List UInt8}{a b d n:Int}{t:ByteArray}{v:Value}{w:World}{a' b' d' n':Int}{t':ByteArray}{v':Value}{w':World}{a'' b'' d'' n'':Int}{t'':ByteArray}{v'':Value}{w'':World}(hk:k≤c.ts.length)(hs:s.toList=l)(hl:l.length≠1)(hn:l≠fY∧l≠eI)(g:G1 c s i i1 a b d t n v w)
  (g2:G1 c ⟨#[61]⟩ i1 i2 a' b' d' t' n' v' w') (g3:SSeg c.ts i2 j tl) (g4:G1 c ⟨#[59]⟩ j k a'' b'' d'' t'' n'' v'' w''):Dcl c.ts i k:=by
 obtain⟨rfl,g,-⟩:=g;obtain⟨rfl,g2,-⟩:=g2;obtain⟨rfl,g4,-⟩:=g4;obtain⟨o,l1,f1,lt⟩:=SSeg.out g3;have kk:=iI (by omega) hs hl g;have y:=k_ (c:=c) (i:=i+1) (by omega) g2 (by decide) (by decide);exact Dcl.of_semi kk.1 (by rw[kk.2];exact hn) (y.1.trans o (NGa.prev y.2)).set (c.sym (by omega) g4 (by decide))
theorem iJ(c:PC)(at_:Nat)(mild:Bool)(w:World)(h:PSt c at_ mild w)(hed:aH (tk c.ts at_) {data:=#[101,100,105,116,105,111,110]}=false):
  Calls prog 23 #[.pointer (some ⟨c.bp,0,none⟩)] w (NPost c at_ mild w (fun at' k _ _ _ _ _ _=>Dcl c.ts at_ at'∧k=2)):=by
 have E0:=Z (Env.start h);clear h;have HED:=Z hed;clear hed;go_enter func23,ntmps23;go_wp2_with fail;have E1:=Z (E0.allocZ);refine bO E1 (fun w11 E11=>?_);rw[HED.out];go_wp2_with fail;refine nC (aY c _ (at_) mild _ E11.st) E11 (fun _ _ p=>?_) (fun w12 at12 k12 f12 l12 t12 n12 ka12 kn12 kc12 HG12 HL12 y=>?_)
 ·go_wp2_with fail;exact⟨rfl,.inr p⟩
 have LT12:=Z (af y.out.z1);have E12:=Z (y.out.alloc #[.int .i64 k12,.int .i64 f12,.int .i64 l12,.string t12,.int .u64 n12,.slice ka12 kn12 kc12]);clear y;go_wp2_with fail;refine(ak c _ (at12) mild _ E12.st).mono ?_;rintro e w13 (⟨at13,k13,f13,l13,t13,n13,ka13,kn13,kc13,rfl,hP,F,hlt,hG⟩|⟨ch,rfl,hS,F⟩);rotate_left
 ·go_wp2_with fail;exact⟨rfl,.inr (E12.pan ⟨ch,rfl,hS,F⟩)⟩
 have HG13:=Z hG;have HL13:=Z hlt;have LT13:=Z (af (E12.call hP F).z2);have E13:=Z ((E12.call hP F).alloc #[.int .i64 k13,.int .i64 f13,.int .i64 l13,.string t13,.int .u64 n13,.slice ka13 kn13 kc13]);clear hP F hG hlt;go_wp2_with fail;refine(fV c (at13) mild _ E13.st).mono ?_;rintro e w14 (⟨at14,k14,f14,l14,t14,n14,ka14,kn14,kc14,rfl,hP,F,hlt,hG⟩|⟨ch,rfl,hS,F⟩);rotate_left
 ·go_wp2_with fail;exact⟨rfl,.inr (E13.pan ⟨ch,rfl,hS,F⟩)⟩
 have HG14:=Z hG;have HL14:=Z hlt;have LT14:=Z (af (E13.call hP F).z3);have E14:=Z ((E13.call hP F).alloc #[.int .i64 k14,.int .i64 f14,.int .i64 l14,.string t14,.int .u64 n14,.slice ka14 kn14 kc14]);clear hP F hG hlt;go_wp2_with (first|(refine yi E14.z1 (i:=3) rfl rfl (.inr (.inl rfl)) ?_))
 ·refine aG (fun x0=>Hid (Env c (at14) mild w [(w14.heap.size,#[.int .i64 k14,.int .i64 f14,.int .i64 l14,.string t14,.int .u64 n14,.slice ka14 kn14 kc14]),(w13.heap.size,#[.int .i64 k13,.int .i64 f13,.int .i64 l13,.string t13,.int .u64 n13,.slice ka13 kn13 kc13]),(w12.heap.size,#[.int .i64 k12,.int .i64 f12,.int .i64 l12,.string t12,.int .u64 n12,.slice ka12 kn12 kc12]),(w.heap.size,#[.int .i64 0,.int .i64 0,.int .i64 0,.string ⟨#[]⟩,.int .u64 0,.slice none 0 0])] [] x0)) E14 ?_;intro x0 X0;generalize w14.heap.size=b14 at*
  generalize w13.heap.size=b13 at*
  generalize w12.heap.size=b12 at*
  have cb14:∀ (w':World) (o:Nat),w'.heap[b14]? =some (.cells #[.int .i64 k14,.int .i64 f14,.int .i64 l14,.string t14,.int .u64 n14,.slice ka14 kn14 kc14] 26 (0,0))→w'.cell? ⟨b14,o,none⟩=(#[.int .i64 k14,.int .i64 f14,.int .i64 l14,.string t14,.int .u64 n14,.slice ka14 kn14 kc14]:Array Value)[o]? :=fun _ o z=>ab z o
  have cb13:∀ (w':World) (o:Nat),w'.heap[b13]? =some (.cells #[.int .i64 k13,.int .i64 f13,.int .i64 l13,.string t13,.int .u64 n13,.slice ka13 kn13 kc13] 26 (0,0))→w'.cell? ⟨b13,o,none⟩=(#[.int .i64 k13,.int .i64 f13,.int .i64 l13,.string t13,.int .u64 n13,.slice ka13 kn13 kc13]:Array Value)[o]? :=fun _ o z=>ab z o
  have cb12:∀ (w':World) (o:Nat),w'.heap[b12]? =some (.cells #[.int .i64 k12,.int .i64 f12,.int .i64 l12,.string t12,.int .u64 n12,.slice ka12 kn12 kc12] 26 (0,0))→w'.cell? ⟨b12,o,none⟩=(#[.int .i64 k12,.int .i64 f12,.int .i64 l12,.string t12,.int .u64 n12,.slice ka12 kn12 kc12]:Array Value)[o]? :=fun _ o z=>ab z o
  have N14:b14≠c.bp:=by have:=(X0).lt1.1;have:=X0.bp0;omega
  have D14:b14≠w.heap.size:=by have:=LT14.out;omega
  have Z14:=Keep.blk ((Fr.refl x0).drew) X0.z1;have N13:b13≠c.bp:=by have:=(X0.dropB).lt1.1;have:=X0.bp0;omega
  have D13:b13≠w.heap.size:=by have:=LT13.out;omega
  have Z13:=Keep.blk ((Fr.refl x0).drew) X0.z2;have N12:b12≠c.bp:=by have:=(X0.dropB.dropB).lt1.1;have:=X0.bp0;omega
  have D12:b12≠w.heap.size:=by have:=LT12.out;omega
  have Z12:=Keep.blk ((Fr.refl x0).drew) X0.z3;have N0:w.heap.size≠c.bp:=by have:=X0.bp0;omega
  have Z0:=Keep.blk ((Fr.refl x0).drew) X0.z4;have X1:=Z (X0.keep ((Fr.refl x0).drew));go_region_held2 (fun w'=>w'.heap[b14]? =some (.cells #[.int .i64 k14,.int .i64 f14,.int .i64 l14,.string t14,.int .u64 n14,.slice ka14 kn14 kc14] 26 (0,0))∧w'.heap[b13]? =some (.cells #[.int .i64 k13,.int .i64 f13,.int .i64 l13,.string t13,.int .u64 n13,.slice ka13 kn13 kc13] 26 (0,0))∧w'.heap[b12]? =some (.cells #[.int .i64 k12,.int .i64 f12,.int .i64 l12,.string t12,.int .u64 n12,.slice ka12 kn12 kc12] 26 (0,0)))
   (first|with_reducible exact⟨Z14,Z13,Z12⟩|with_reducible exact⟨F5.blk N14 Z14,F5.blk N13 Z13,F5.blk N12 Z12⟩|with_reducible exact⟨Keep.blk ((Fr.refl _).alloc _) (F5.blk N14 Z14),Keep.blk ((Fr.refl _).alloc _) (F5.blk N13 Z13),Keep.blk ((Fr.refl _).alloc _) (F5.blk N12 Z12)⟩|with_reducible exact⟨Keep.blk k6 (Keep.blk ((Fr.refl _).alloc _) (F5.blk N14 Z14)),Keep.blk k6 (Keep.blk ((Fr.refl _).alloc _) (F5.blk N13 Z13)),Keep.blk k6 (Keep.blk ((Fr.refl _).alloc _) (F5.blk N12 Z12))⟩|(refine⟨Fr.blk (S:=(· =w.heap.size)) ?_ D14 (Keep.blk k6 (Keep.blk ((Fr.refl _).alloc _) (F5.blk N14 Z14))),Fr.blk (S:=(· =w.heap.size)) ?_ D13 (Keep.blk k6 (Keep.blk ((Fr.refl _).alloc _) (F5.blk N13 Z13))),Fr.blk (S:=(· =w.heap.size)) ?_ D12 (Keep.blk k6 (Keep.blk ((Fr.refl _).alloc _) (F5.blk N12 Z12)))⟩<;> (repeat(first|(with_reducible exact Fr.refl _)|(with_reducible refine Fr.setIn ?_ _ rfl)))))
   (first|(go_at_call 48;refine(ak c _ (at14) mild _ X1.st).mono ?_;rintro e w15 (⟨at15,k15,f15,l15,t15,n15,ka15,kn15,kc15,rfl,hP5,F5,hlt,hG⟩|⟨ch,rfl,hS,F⟩);rotate_left;(exact⟨rfl,.inr (X1.pan ⟨ch,rfl,hS,F⟩)⟩))|(go_at_call 27;refine(node_any w.heap.size 2 _ [Nd.mk k12 f12 l12 t12 n12 ka12 kn12 kc12,Nd.mk k13 f13 l13 t13 n13 ka13 kn13 kc13,Nd.mk k14 f14 l14 t14 n14 ka14 kn14 kc14,Nd.mk k15 f15 l15 t15 n15 ka15 kn15 kc15] _ ((X1.call hP5 F5).addNew _ _ rfl (by simp)).k1 (by simp) (by simp)).mono ?_;rintro e wnd ⟨rfl,k6⟩;obtain⟨r0,r1,r2,r3,r4,r5,g0,g1,g2,g3,g4,g5⟩:=c_ (k6.blk (Keep.blk ((Fr.refl w15).alloc (.cells _ 26)) (F5.blk N0 Z0)))))
  have HG15:=Z hG;have HL15:=Z hlt;have E15:=Z ((((X1.call hP5 F5).addNew [Nd.mk k12 f12 l12 t12 n12 ka12 kn12 kc12,Nd.mk k13 f13 l13 t13 n13 ka13 kn13 kc13,Nd.mk k14 f14 l14 t14 n14 ka14 kn14 kc14,Nd.mk k15 f15 l15 t15 n15 ka15 kn15 kc15] #[.int .i64 k12,.int .i64 f12,.int .i64 l12,.string t12,.int .u64 n12,.slice ka12 kn12 kc12,.int .i64 k13,.int .i64 f13,.int .i64 l13,.string t13,.int .u64 n13,.slice ka13 kn13 kc13,.int .i64 k14,.int .i64 f14,.int .i64 l14,.string t14,.int .u64 n14,.slice ka14 kn14 kc14,.int .i64 k15,.int .i64 f15,.int .i64 l15,.string t15,.int .u64 n15,.slice ka15 kn15 kc15] rfl (by simp)).dropK).keep k6);have Z6:=Z E15.z4;rw[lg Z6.out];clear r0 r1 r2 r3 r4 r5 g0 g1 g2 g3 g4 g5 hG hlt hP5 F5 k6 N0 Z0 cb14 N14 D14 Z14 cb13 N13 D13 Z13 cb12 N12 D12 Z12;go_wp2_with fail;refine qh (aN rfl (setRow_heap _ _ _ _ _ _ Z6) rfl) rfl ?_;exact .inl ⟨at15,_,_,_,_,_,_,_,_,rfl,(E15.fin qr _).1,(E15.fin qr _).2,by have:=HL12.out;have:=HL13.out;have:=HL14.out;have:=HL15.out;omega,⟨kX (l:=[115,121,110,116,97,120]) (by have:=E15.st.lt;omega) (qp _) (by decide) (by decide) HG12 HG13 HG14 HG15,rfl⟩⟩
 ·refine aG (fun x0=>Hid (Env c (at14) mild w [(w14.heap.size,#[.int .i64 k14,.int .i64 f14,.int .i64 l14,.string t14,.int .u64 n14,.slice ka14 kn14 kc14]),(w13.heap.size,#[.int .i64 k13,.int .i64 f13,.int .i64 l13,.string t13,.int .u64 n13,.slice ka13 kn13 kc13]),(w12.heap.size,#[.int .i64 k12,.int .i64 f12,.int .i64 l12,.string t12,.int .u64 n12,.slice ka12 kn12 kc12]),(w.heap.size,#[.int .i64 0,.int .i64 0,.int .i64 0,.string ⟨#[]⟩,.int .u64 0,.slice none 0 0])] [] x0)) E14 ?_;intro x0 X0;generalize w14.heap.size=b14 at*
  generalize w13.heap.size=b13 at*
  generalize w12.heap.size=b12 at*
  have cb14:∀ (w':World) (o:Nat),w'.heap[b14]? =some (.cells #[.int .i64 k14,.int .i64 f14,.int .i64 l14,.string t14,.int .u64 n14,.slice ka14 kn14 kc14] 26 (0,0))→w'.cell? ⟨b14,o,none⟩=(#[.int .i64 k14,.int .i64 f14,.int .i64 l14,.string t14,.int .u64 n14,.slice ka14 kn14 kc14]:Array Value)[o]? :=fun _ o z=>ab z o
  have cb13:∀ (w':World) (o:Nat),w'.heap[b13]? =some (.cells #[.int .i64 k13,.int .i64 f13,.int .i64 l13,.string t13,.int .u64 n13,.slice ka13 kn13 kc13] 26 (0,0))→w'.cell? ⟨b13,o,none⟩=(#[.int .i64 k13,.int .i64 f13,.int .i64 l13,.string t13,.int .u64 n13,.slice ka13 kn13 kc13]:Array Value)[o]? :=fun _ o z=>ab z o
  have cb12:∀ (w':World) (o:Nat),w'.heap[b12]? =some (.cells #[.int .i64 k12,.int .i64 f12,.int .i64 l12,.string t12,.int .u64 n12,.slice ka12 kn12 kc12] 26 (0,0))→w'.cell? ⟨b12,o,none⟩=(#[.int .i64 k12,.int .i64 f12,.int .i64 l12,.string t12,.int .u64 n12,.slice ka12 kn12 kc12]:Array Value)[o]? :=fun _ o z=>ab z o
  have N14:b14≠c.bp:=by have:=(X0).lt1.1;have:=X0.bp0;omega
  have D14:b14≠w.heap.size:=by have:=LT14.out;omega
  have Z14:=Keep.blk ((Fr.refl x0).drew) X0.z1;have N13:b13≠c.bp:=by have:=(X0.dropB).lt1.1;have:=X0.bp0;omega
  have D13:b13≠w.heap.size:=by have:=LT13.out;omega
  have Z13:=Keep.blk ((Fr.refl x0).drew) X0.z2;have N12:b12≠c.bp:=by have:=(X0.dropB.dropB).lt1.1;have:=X0.bp0;omega
  have D12:b12≠w.heap.size:=by have:=LT12.out;omega
  have Z12:=Keep.blk ((Fr.refl x0).drew) X0.z3;have N0:w.heap.size≠c.bp:=by have:=X0.bp0;omega
  have Z0:=Keep.blk ((Fr.refl x0).drew) X0.z4;have X1:=Z (X0.keep ((Fr.refl x0).drew));go_region_held2 (fun w'=>w'.heap[b14]? =some (.cells #[.int .i64 k14,.int .i64 f14,.int .i64 l14,.string t14,.int .u64 n14,.slice ka14 kn14 kc14] 26 (0,0))∧w'.heap[b13]? =some (.cells #[.int .i64 k13,.int .i64 f13,.int .i64 l13,.string t13,.int .u64 n13,.slice ka13 kn13 kc13] 26 (0,0))∧w'.heap[b12]? =some (.cells #[.int .i64 k12,.int .i64 f12,.int .i64 l12,.string t12,.int .u64 n12,.slice ka12 kn12 kc12] 26 (0,0)))
   (first|with_reducible exact⟨Z14,Z13,Z12⟩|with_reducible exact⟨F5.blk N14 Z14,F5.blk N13 Z13,F5.blk N12 Z12⟩|with_reducible exact⟨Keep.blk ((Fr.refl _).alloc _) (F5.blk N14 Z14),Keep.blk ((Fr.refl _).alloc _) (F5.blk N13 Z13),Keep.blk ((Fr.refl _).alloc _) (F5.blk N12 Z12)⟩|with_reducible exact⟨Keep.blk k6 (Keep.blk ((Fr.refl _).alloc _) (F5.blk N14 Z14)),Keep.blk k6 (Keep.blk ((Fr.refl _).alloc _) (F5.blk N13 Z13)),Keep.blk k6 (Keep.blk ((Fr.refl _).alloc _) (F5.blk N12 Z12))⟩|(refine⟨Fr.blk (S:=(· =w.heap.size)) ?_ D14 (Keep.blk k6 (Keep.blk ((Fr.refl _).alloc _) (F5.blk N14 Z14))),Fr.blk (S:=(· =w.heap.size)) ?_ D13 (Keep.blk k6 (Keep.blk ((Fr.refl _).alloc _) (F5.blk N13 Z13))),Fr.blk (S:=(· =w.heap.size)) ?_ D12 (Keep.blk k6 (Keep.blk ((Fr.refl _).alloc _) (F5.blk N12 Z12)))⟩<;> (repeat(first|(with_reducible exact Fr.refl _)|(with_reducible refine Fr.setIn ?_ _ rfl)))))
   (first|(go_at_call 48;refine(ak c _ (at14) mild _ X1.st).mono ?_;rintro e w16 (⟨at16,k16,f16,l16,t16,n16,ka16,kn16,kc16,rfl,hP5,F5,hlt,hG⟩|⟨ch,rfl,hS,F⟩);rotate_left;(exact⟨rfl,.inr (X1.pan ⟨ch,rfl,hS,F⟩)⟩))|(go_at_call 27;refine(node_any w.heap.size 2 _ [Nd.mk k12 f12 l12 t12 n12 ka12 kn12 kc12,Nd.mk k13 f13 l13 t13 n13 ka13 kn13 kc13,Nd.mk k14 f14 l14 t14 n14 ka14 kn14 kc14,Nd.mk k16 f16 l16 t16 n16 ka16 kn16 kc16] _ ((X1.call hP5 F5).addNew _ _ rfl (by simp)).k1 (by simp) (by simp)).mono ?_;rintro e wnd ⟨rfl,k6⟩;obtain⟨r0,r1,r2,r3,r4,r5,g0,g1,g2,g3,g4,g5⟩:=c_ (k6.blk (Keep.blk ((Fr.refl w16).alloc (.cells _ 26)) (F5.blk N0 Z0)))))
  have HG16:=Z hG;have HL16:=Z hlt;have E16:=Z ((((X1.call hP5 F5).addNew [Nd.mk k12 f12 l12 t12 n12 ka12 kn12 kc12,Nd.mk k13 f13 l13 t13 n13 ka13 kn13 kc13,Nd.mk k14 f14 l14 t14 n14 ka14 kn14 kc14,Nd.mk k16 f16 l16 t16 n16 ka16 kn16 kc16] #[.int .i64 k12,.int .i64 f12,.int .i64 l12,.string t12,.int .u64 n12,.slice ka12 kn12 kc12,.int .i64 k13,.int .i64 f13,.int .i64 l13,.string t13,.int .u64 n13,.slice ka13 kn13 kc13,.int .i64 k14,.int .i64 f14,.int .i64 l14,.string t14,.int .u64 n14,.slice ka14 kn14 kc14,.int .i64 k16,.int .i64 f16,.int .i64 l16,.string t16,.int .u64 n16,.slice ka16 kn16 kc16] rfl (by simp)).dropK).keep k6);have Z6:=Z E16.z4;rw[lg Z6.out];clear r0 r1 r2 r3 r4 r5 g0 g1 g2 g3 g4 g5 hG hlt hP5 F5 k6 N0 Z0 cb14 N14 D14 Z14 cb13 N13 D13 Z13 cb12 N12 D12 Z12;go_wp2_with fail;refine qh (aN rfl (setRow_heap _ _ _ _ _ _ Z6) rfl) rfl ?_;exact .inl ⟨at16,_,_,_,_,_,_,_,_,rfl,(E16.fin qr _).1,(E16.fin qr _).2,by have:=HL12.out;have:=HL13.out;have:=HL14.out;have:=HL16.out;omega,⟨kX (l:=[115,121,110,116,97,120]) (by have:=E16.st.lt;omega) (qp _) (by decide) (by decide) HG12 HG13 HG14 HG16,rfl⟩⟩
 ·refine(ap c (at14) mild _ E14.st).mono ?_;rintro e wq ⟨ch,rfl,hS,F⟩;go_wp2_with fail;exact⟨rfl,.inr (E14.pan ⟨ch,rfl,hS,F⟩)⟩
theorem iw(c:PC)(at_:Nat)(mild:Bool)(w:World)(h:PSt c at_ mild w)(hed:aH (tk c.ts at_) {data:=#[101,100,105,116,105,111,110]}=true):
  Calls prog 23 #[.pointer (some ⟨c.bp,0,none⟩)] w (NPost c at_ mild w (fun at' k _ _ _ _ _ _=>Dcl c.ts at_ at'∧k=3)):=by
 have E0:=Z (Env.start h);clear h;have HED:=Z hed;clear hed;go_enter func23,ntmps23;go_wp2_with fail;have E1:=Z (E0.allocZ);refine bO E1 (fun w11 E11=>?_);rw[HED.out];go_wp2_with fail;refine nC (aY c _ (at_) mild _ E11.st) E11 (fun _ _ p=>?_) (fun w12 at12 k12 f12 l12 t12 n12 ka12 kn12 kc12 HG12 HL12 y=>?_)
 ·go_wp2_with fail;exact⟨rfl,.inr p⟩
 have LT12:=Z (af y.out.z1);have E12:=Z (y.out.alloc #[.int .i64 k12,.int .i64 f12,.int .i64 l12,.string t12,.int .u64 n12,.slice ka12 kn12 kc12]);clear y;go_wp2_with fail;refine(ak c _ (at12) mild _ E12.st).mono ?_;rintro e w13 (⟨at13,k13,f13,l13,t13,n13,ka13,kn13,kc13,rfl,hP,F,hlt,hG⟩|⟨ch,rfl,hS,F⟩);rotate_left
 ·go_wp2_with fail;exact⟨rfl,.inr (E12.pan ⟨ch,rfl,hS,F⟩)⟩
 have HG13:=Z hG;have HL13:=Z hlt;have LT13:=Z (af (E12.call hP F).z2);have E13:=Z ((E12.call hP F).alloc #[.int .i64 k13,.int .i64 f13,.int .i64 l13,.string t13,.int .u64 n13,.slice ka13 kn13 kc13]);clear hP F hG hlt;go_wp2_with fail;refine(fV c (at13) mild _ E13.st).mono ?_;rintro e w14 (⟨at14,k14,f14,l14,t14,n14,ka14,kn14,kc14,rfl,hP,F,hlt,hG⟩|⟨ch,rfl,hS,F⟩);rotate_left
 ·go_wp2_with fail;exact⟨rfl,.inr (E13.pan ⟨ch,rfl,hS,F⟩)⟩
 have HG14:=Z hG;have HL14:=Z hlt;have LT14:=Z (af (E13.call hP F).z3);have E14:=Z ((E13.call hP F).alloc #[.int .i64 k14,.int .i64 f14,.int .i64 l14,.string t14,.int .u64 n14,.slice ka14 kn14 kc14]);clear hP F hG hlt;go_wp2_with (first|(refine yi E14.z1 (i:=3) rfl rfl (.inr (.inl rfl)) ?_))
 ·refine(ap c (at14) mild _ E14.st).mono ?_;rintro e wq ⟨ch,rfl,hS,F⟩;go_wp2_with fail;exact⟨rfl,.inr (E14.pan ⟨ch,rfl,hS,F⟩)⟩
 ·refine aG (fun x0=>Hid (Env c (at14) mild w [(w14.heap.size,#[.int .i64 k14,.int .i64 f14,.int .i64 l14,.string t14,.int .u64 n14,.slice ka14 kn14 kc14]),(w13.heap.size,#[.int .i64 k13,.int .i64 f13,.int .i64 l13,.string t13,.int .u64 n13,.slice ka13 kn13 kc13]),(w12.heap.size,#[.int .i64 k12,.int .i64 f12,.int .i64 l12,.string t12,.int .u64 n12,.slice ka12 kn12 kc12]),(w.heap.size,#[.int .i64 0,.int .i64 0,.int .i64 0,.string ⟨#[]⟩,.int .u64 0,.slice none 0 0])] [] x0)) E14 ?_;intro x0 X0;generalize w14.heap.size=b14 at*
  generalize w13.heap.size=b13 at*
  generalize w12.heap.size=b12 at*
  have cb14:∀ (w':World) (o:Nat),w'.heap[b14]? =some (.cells #[.int .i64 k14,.int .i64 f14,.int .i64 l14,.string t14,.int .u64 n14,.slice ka14 kn14 kc14] 26 (0,0))→w'.cell? ⟨b14,o,none⟩=(#[.int .i64 k14,.int .i64 f14,.int .i64 l14,.string t14,.int .u64 n14,.slice ka14 kn14 kc14]:Array Value)[o]? :=fun _ o z=>ab z o
  have cb13:∀ (w':World) (o:Nat),w'.heap[b13]? =some (.cells #[.int .i64 k13,.int .i64 f13,.int .i64 l13,.string t13,.int .u64 n13,.slice ka13 kn13 kc13] 26 (0,0))→w'.cell? ⟨b13,o,none⟩=(#[.int .i64 k13,.int .i64 f13,.int .i64 l13,.string t13,.int .u64 n13,.slice ka13 kn13 kc13]:Array Value)[o]? :=fun _ o z=>ab z o
  have cb12:∀ (w':World) (o:Nat),w'.heap[b12]? =some (.cells #[.int .i64 k12,.int .i64 f12,.int .i64 l12,.string t12,.int .u64 n12,.slice ka12 kn12 kc12] 26 (0,0))→w'.cell? ⟨b12,o,none⟩=(#[.int .i64 k12,.int .i64 f12,.int .i64 l12,.string t12,.int .u64 n12,.slice ka12 kn12 kc12]:Array Value)[o]? :=fun _ o z=>ab z o
  have N14:b14≠c.bp:=by have:=(X0).lt1.1;have:=X0.bp0;omega
  have D14:b14≠w.heap.size:=by have:=LT14.out;omega
  have Z14:=Keep.blk ((Fr.refl x0).drew) X0.z1;have N13:b13≠c.bp:=by have:=(X0.dropB).lt1.1;have:=X0.bp0;omega
  have D13:b13≠w.heap.size:=by have:=LT13.out;omega
  have Z13:=Keep.blk ((Fr.refl x0).drew) X0.z2;have N12:b12≠c.bp:=by have:=(X0.dropB.dropB).lt1.1;have:=X0.bp0;omega
  have D12:b12≠w.heap.size:=by have:=LT12.out;omega
  have Z12:=Keep.blk ((Fr.refl x0).drew) X0.z3;have N0:w.heap.size≠c.bp:=by have:=X0.bp0;omega
  have Z0:=Keep.blk ((Fr.refl x0).drew) X0.z4;have X1:=Z (X0.keep ((Fr.refl x0).drew));go_region_held2 (fun w'=>w'.heap[b14]? =some (.cells #[.int .i64 k14,.int .i64 f14,.int .i64 l14,.string t14,.int .u64 n14,.slice ka14 kn14 kc14] 26 (0,0))∧w'.heap[b13]? =some (.cells #[.int .i64 k13,.int .i64 f13,.int .i64 l13,.string t13,.int .u64 n13,.slice ka13 kn13 kc13] 26 (0,0))∧w'.heap[b12]? =some (.cells #[.int .i64 k12,.int .i64 f12,.int .i64 l12,.string t12,.int .u64 n12,.slice ka12 kn12 kc12] 26 (0,0)))
   (first|with_reducible exact⟨Z14,Z13,Z12⟩|with_reducible exact⟨F5.blk N14 Z14,F5.blk N13 Z13,F5.blk N12 Z12⟩|with_reducible exact⟨Keep.blk ((Fr.refl _).alloc _) (F5.blk N14 Z14),Keep.blk ((Fr.refl _).alloc _) (F5.blk N13 Z13),Keep.blk ((Fr.refl _).alloc _) (F5.blk N12 Z12)⟩|with_reducible exact⟨Keep.blk k6 (Keep.blk ((Fr.refl _).alloc _) (F5.blk N14 Z14)),Keep.blk k6 (Keep.blk ((Fr.refl _).alloc _) (F5.blk N13 Z13)),Keep.blk k6 (Keep.blk ((Fr.refl _).alloc _) (F5.blk N12 Z12))⟩|(refine⟨Fr.blk (S:=(· =w.heap.size)) ?_ D14 (Keep.blk k6 (Keep.blk ((Fr.refl _).alloc _) (F5.blk N14 Z14))),Fr.blk (S:=(· =w.heap.size)) ?_ D13 (Keep.blk k6 (Keep.blk ((Fr.refl _).alloc _) (F5.blk N13 Z13))),Fr.blk (S:=(· =w.heap.size)) ?_ D12 (Keep.blk k6 (Keep.blk ((Fr.refl _).alloc _) (F5.blk N12 Z12)))⟩<;> (repeat(first|(with_reducible exact Fr.refl _)|(with_reducible refine Fr.setIn ?_ _ rfl)))))
   (first|(go_at_call 48;refine(ak c _ (at14) mild _ X1.st).mono ?_;rintro e w15 (⟨at15,k15,f15,l15,t15,n15,ka15,kn15,kc15,rfl,hP5,F5,hlt,hG⟩|⟨ch,rfl,hS,F⟩);rotate_left;(exact⟨rfl,.inr (X1.pan ⟨ch,rfl,hS,F⟩)⟩))|(go_at_call 27;refine(node_any w.heap.size 3 _ [Nd.mk k12 f12 l12 t12 n12 ka12 kn12 kc12,Nd.mk k13 f13 l13 t13 n13 ka13 kn13 kc13,Nd.mk k14 f14 l14 t14 n14 ka14 kn14 kc14,Nd.mk k15 f15 l15 t15 n15 ka15 kn15 kc15] _ ((X1.call hP5 F5).addNew _ _ rfl (by simp)).k1 (by simp) (by simp)).mono ?_;rintro e wnd ⟨rfl,k6⟩;obtain⟨r0,r1,r2,r3,r4,r5,g0,g1,g2,g3,g4,g5⟩:=c_ (k6.blk (Keep.blk ((Fr.refl w15).alloc (.cells _ 26)) (F5.blk N0 Z0)))))
  have HG15:=Z hG;have HL15:=Z hlt;have E15:=Z ((((X1.call hP5 F5).addNew [Nd.mk k12 f12 l12 t12 n12 ka12 kn12 kc12,Nd.mk k13 f13 l13 t13 n13 ka13 kn13 kc13,Nd.mk k14 f14 l14 t14 n14 ka14 kn14 kc14,Nd.mk k15 f15 l15 t15 n15 ka15 kn15 kc15] #[.int .i64 k12,.int .i64 f12,.int .i64 l12,.string t12,.int .u64 n12,.slice ka12 kn12 kc12,.int .i64 k13,.int .i64 f13,.int .i64 l13,.string t13,.int .u64 n13,.slice ka13 kn13 kc13,.int .i64 k14,.int .i64 f14,.int .i64 l14,.string t14,.int .u64 n14,.slice ka14 kn14 kc14,.int .i64 k15,.int .i64 f15,.int .i64 l15,.string t15,.int .u64 n15,.slice ka15 kn15 kc15] rfl (by simp)).dropK).keep k6);have Z6:=Z E15.z4;rw[lg Z6.out];clear r0 r1 r2 r3 r4 r5 g0 g1 g2 g3 g4 g5 hG hlt hP5 F5 k6 N0 Z0 cb14 N14 D14 Z14 cb13 N13 D13 Z13 cb12 N12 D12 Z12;go_wp2_with fail;refine qh (aN rfl (setRow_heap _ _ _ _ _ _ Z6) rfl) rfl ?_;exact .inl ⟨at15,_,_,_,_,_,_,_,_,rfl,(E15.fin qr _).1,(E15.fin qr _).2,by have:=HL12.out;have:=HL13.out;have:=HL14.out;have:=HL15.out;omega,⟨kX (l:=[101,100,105,116,105,111,110]) (by have:=E15.st.lt;omega) (qp _) (by decide) (by decide) HG12 HG13 HG14 HG15,rfl⟩⟩
theorem gY(c:PC)(at_:Nat)(mild:Bool)(w:World)(h:PSt c at_ mild w):
  Calls prog 23 #[.pointer (some ⟨c.bp,0,none⟩)] w (NPost c at_ mild w (GD c at_)):=by
 cases e:aH (tk c.ts at_) {data:=#[101,100,105,116,105,111,110]}
 ·exact(iJ c at_ mild w h e).mono fun _ _ hh=>hh.imp (fun⟨at',k,f,l,t,n,ka,kn,kc,h1,h2,h3,h4,h5⟩=>⟨at',k,f,l,t,n,ka,kn,kc,h1,h2,h3,h4,h5.1,by rw[h5.2];decide,by rw[h5.2];decide⟩) id
 ·exact(iw c at_ mild w h e).mono fun _ _ hh=>hh.imp (fun⟨at',k,f,l,t,n,ka,kn,kc,h1,h2,h3,h4,h5⟩=>⟨at',k,f,l,t,n,ka,kn,kc,h1,h2,h3,h4,h5.1,by rw[h5.2];decide,by rw[h5.2];decide⟩) id
end Go.Proofs.YtnclklfhjbkjhaaGreatDoor
