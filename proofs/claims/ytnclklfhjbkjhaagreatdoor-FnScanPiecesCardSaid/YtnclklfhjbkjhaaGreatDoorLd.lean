/- Part of the proof: L9 LA LB. -/
import Derived.Test.YtnclklfhjbkjhaaGreatDoorLc
set_option maxRecDepth 1000000
set_option maxHeartbeats 40000000
set_option linter.unusedSimpArgs false
namespace Go.Proofs.YtnclklfhjbkjhaaGreatDoor
open Go.RowKit Go.Lib
theorem wn(C:RC)(lx rr T B:Nat)(A:Nat→Prop)(ok:Bool)(R:List Int)(p pv:Ps)(l:List UInt8)(q:Value)(w:World)(g:Nat)
  (H:Hid (BufSt C lx rr (fun k=>A k∨k=g) ok T 0 R p pv B B l w)) (HL:Hid (l.length≤900000000)) (HU:Hid (RowU lx g (fun k=>A k∨k=g) (fO 4 R 0) w)) (HC:Hid (Cp R)) (hg:C.pb≤g∧¬A g):
  Pc68 (qW 3) lx B q (fun u=>u 19= .slice (some ⟨g,0,none⟩) 4 4∧u 243= .int .i64 4∧u 244= .int .i64 0) (fun u=>u 19= .slice (some ⟨g,0,none⟩) 4 4) w (fun wx=>(∃ok,BufSt C lx rr (fun k=>A k∨k=g) ok T 0 (R.drop 4) p pv B B (l++cq 117 4 R) wx)∧RowU lx g (fun k=>A k∨k=g) (iL 4 R) wx∧Fr (LxF C lx A) w wx):=by
 intro a J K Q HF hJ hK;obtain⟨u,⟨hs,h1,h2,h3⟩,rfl⟩:=HF;have HS:=Z hs;have HG:=Z hg;clear hg;unfold bC;rw[hs.1,hs.2.2,h1,h2,h3];clear hs h1 h2 h3
 conv=>arg 2;whnf
 go_wp2_with fail;refine wp_loop_ghost_k (fun k a' w'=>∃ (i:Nat) (ok:Bool),k=4-i∧i≤4∧i≤R.length∧Fr68 (fun u=>dh lx B q u∧u 19= .slice (some ⟨g,0,none⟩) 4 4∧u 243= .int .i64 4∧u 244= .int .i64 i) a'∧BufSt C lx rr (fun k=>A k∨k=g) ok T 0 (R.drop i) p pv B B l w'∧RowU lx g (fun k=>A k∨k=g) (fO 4 R i) w'∧Fr (LxF C lx A) w w') 4 ?_ ?_
 ·exact⟨0,ok,rfl,Nat.zero_le _,Nat.zero_le _,Fr68.mk rfl rfl ⟨⟨rfl,HS.2.1,rfl⟩,rfl,rfl,rfl⟩,H,HU,Fr.refl _⟩
 ·rintro gk a' wr ⟨i,ok',rfl,hi,hiR,⟨u,⟨hs,h1,h2,h3⟩,rfl⟩,hb,hu,hf⟩ J2 K2 hJ2 hK2;have HS:=Z hs;have HB:=Z hb;have HF:=Z hf;have HU':=Z hu;have HI:=Z hiR;have c0:=hb.st.cell;have hls:=HL.out;have hls9:l.length≤1000000000:=by omega
  unfold bC;rw[hs.1,hs.2.2,h1,h2,h3];clear hs h1 h2 h3 hb hf hu hiR;by_cases hlt:i<4
  ·go_wp2_with first
    |(go_at_call 62;refine(dG HB).mono ?_;rintro e w2 ⟨f2,(⟨hR,h2,b,rfl⟩|⟨c,R2,hR,h2,rfl⟩)⟩<;>refine Hid.out ?_)
   ·refine Z ?_;have hil:i=R.length:=by
     have:=List.drop_eq_nil_iff.1 hR;have:=HI.out;omega
    have HIL:=Z hil;have H2:=Z h2;have HF2:=Z (HF.trans (f2.mono fun _ _ e=>e.less'));have HU2:=Z (HU'.fr f2);have hec:bsl++enc 117=(⟨#[92,117]⟩:ByteArray).toList:=by rw[qi];rfl
    have HEC:=Z hec;clear hR h2 f2 hil hec c0;go_upto_block 5 with(go_at_call 101;refine(ez ⟨#[92,117]⟩ H2 hls9 (by decide)).mono ?_;rintro e w5 ⟨⟨n5,rfl⟩,h5,f5⟩;have H5:=Z h5;have HF5:=Z (HF2.trans (f5.mono fun _ _ e=>e.less'));have HU5:=Z (HU2.fr f5);clear h5 f5);refine(wl C lx rr T B _ false [] p pv _ q w5 g (fO 4 R i) H5 (Z (by rw[qk,←HEC.out,qk,ba];have:=aI 117;omega)) HU5 (Z (lA HC.out)) i hi (fk HI.out hi)).last (Fr68.mk rfl rfl ⟨⟨rfl,HS.2.1,rfl⟩,rfl,rfl,rfl⟩) ?_;rintro a' wc ⟨⟨u,⟨hs,h1⟩,rfl⟩,h,f⟩;have H6:=Z h;have HF6:=Z (HF5.trans (f.mono fun _ _ e=>e.less'));have HU6:=Z (HU5.fr f);have HS:=Z hs;have H1:=Z h1;clear h f hs h1;go_wp2_with fail;refine Met.intro (hJ _ _ ⟨⟨u,⟨HS,H1⟩,rfl⟩,⟨false,?_⟩,?_,HF6⟩)
    ·have hd:R.drop 4=[]:=List.drop_eq_nil_of_le (by have:=HIL.out;omega);have h:=H6.out;rw[mN HI.out,HIL.out,List.take_length,←HEC.out] at h;rw[hd,cq,if_pos (by have:=HIL.out;omega),←qs];exact h
    ·rw[iL,←HIL.out,Nat.min_eq_right hi];exact HU6.out
   ·refine Z ?_;have HR:=Z hR;have hiR:i<R.length:=by
     rcases Nat.lt_or_ge i R.length with h|h
     ·exact h
     ·rw[List.drop_eq_nil_of_le h] at hR;cases hR
    have hcR:c=R[i]∧R2=R.drop (i+1):=by
     rw[List.drop_eq_getElem_cons hiR] at hR;cases hR;exact⟨rfl,rfl⟩
    have HCR:=Z hcR;have hu2:=HU'.fr f2;have hip:i< (fO 4 R i).length:=by rw[fk HI.out hi];exact hlt
    obtain⟨z,hcell⟩:∃z:Int,w2.cell? ⟨g,i,none⟩=some (.int .i32 z):=⟨_,hu2.cell hip⟩;have hfz:=ae hu2.b i;have hb3:=ag hu2.b i (.int .i32 c);rw[nh,hcR.1,pg hiR hlt,←hcR.1] at hb3;have hfr:Fr (· =g) w2 (w2.setCell ⟨g,i,none⟩ (.int .i32 c)):=(Fr.refl w2).setIn (S:=(· =g)) _ rfl;have H3:=Z (h2.slack.row hfr hu2.a hu2.ne hu2.b hb3);have HU3:Hid (RowU lx g (fun k=>A k∨k=g) (fO 4 R (i+1)) (w2.setCell ⟨g,i,none⟩ (.int .i32 c))):=Z ⟨hu2.a,hu2.ne,hb3⟩;have HF3:Hid (Fr (LxF C lx A) w (w2.setCell ⟨g,i,none⟩ (.int .i32 c))):=Z ((HF.trans (f2.mono fun _ _ e=>e.less')).trans (hfr.mono fun k _ e=> .inl (by have e':k=g:=e;rw[e'];exact HG.out)));clear hR h2 f2 hcR hu2 hb3 hfr hip c0;go_wp2_with fail;refine Handed.intro (4- (i+1)) (by omega) (hJ2 _ _ _ ⟨i+1,true,rfl,by omega,?_,Fr68.mk rfl rfl ⟨⟨rfl,HS.2.1,rfl⟩,rfl,rfl,by go_num⟩,?_,HU3,HF3⟩)
    ·exact hiR
    ·rw[←HCR.2];exact H3.out
  ·obtain rfl:i=4:=by omega
   go_wp2_with fail;refine Met.intro (hJ _ _ ⟨Fr68.mk rfl rfl ⟨⟨rfl,HS.2.1,rfl⟩,rfl⟩,⟨ok',?_⟩,?_,HF⟩)
   ·rw[cq,if_neg (by have:=HI.out;omega),List.append_nil];exact HB.out
   ·rw[iL,Nat.min_eq_left HI.out];exact HU'.out
theorem wh(C:RC)(lx rr T B:Nat)(A:Nat→Prop)(ok:Bool)(R:List Int)(p pv:Ps)(l:List UInt8)(q:Value)(w:World)(g:Nat)
  (H:Hid (BufSt C lx rr (fun k=>A k∨k=g) ok T 0 R p pv B B l w)) (HL:Hid (l.length≤900000000)) (HU:Hid (RowU lx g (fun k=>A k∨k=g) (fO 8 R 0) w)) (HC:Hid (Cp R)) (hg:C.pb≤g∧¬A g):
  Pc68 (qW 9) lx B q (fun u=>u 28= .slice (some ⟨g,0,none⟩) 8 8∧u 298= .int .i64 8∧u 299= .int .i64 0) (fun u=>u 28= .slice (some ⟨g,0,none⟩) 8 8) w (fun wx=>(∃ok,BufSt C lx rr (fun k=>A k∨k=g) ok T 0 (R.drop 8) p pv B B (l++cq 85 8 R) wx)∧RowU lx g (fun k=>A k∨k=g) (iL 8 R) wx∧Fr (LxF C lx A) w wx):=by
 intro a J K Q HF hJ hK;obtain⟨u,⟨hs,h1,h2,h3⟩,rfl⟩:=HF;have HS:=Z hs;have HG:=Z hg;clear hg;unfold bC;rw[hs.1,hs.2.2,h1,h2,h3];clear hs h1 h2 h3
 conv=>arg 2;whnf
 go_wp2_with fail;refine wp_loop_ghost_k (fun k a' w'=>∃ (i:Nat) (ok:Bool),k=8-i∧i≤8∧i≤R.length∧Fr68 (fun u=>dh lx B q u∧u 28= .slice (some ⟨g,0,none⟩) 8 8∧u 298= .int .i64 8∧u 299= .int .i64 i) a'∧BufSt C lx rr (fun k=>A k∨k=g) ok T 0 (R.drop i) p pv B B l w'∧RowU lx g (fun k=>A k∨k=g) (fO 8 R i) w'∧Fr (LxF C lx A) w w') 8 ?_ ?_
 ·exact⟨0,ok,rfl,Nat.zero_le _,Nat.zero_le _,Fr68.mk rfl rfl ⟨⟨rfl,HS.2.1,rfl⟩,rfl,rfl,rfl⟩,H,HU,Fr.refl _⟩
 ·rintro gk a' wr ⟨i,ok',rfl,hi,hiR,⟨u,⟨hs,h1,h2,h3⟩,rfl⟩,hb,hu,hf⟩ J2 K2 hJ2 hK2;have HS:=Z hs;have HB:=Z hb;have HF:=Z hf;have HU':=Z hu;have HI:=Z hiR;have c0:=hb.st.cell;have hls:=HL.out;have hls9:l.length≤1000000000:=by omega
  unfold bC;rw[hs.1,hs.2.2,h1,h2,h3];clear hs h1 h2 h3 hb hf hu hiR;by_cases hlt:i<8
  ·go_wp2_with first
    |(go_at_call 62;refine(dG HB).mono ?_;rintro e w2 ⟨f2,(⟨hR,h2,b,rfl⟩|⟨c,R2,hR,h2,rfl⟩)⟩<;>refine Hid.out ?_)
   ·refine Z ?_;have hil:i=R.length:=by
     have:=List.drop_eq_nil_iff.1 hR;have:=HI.out;omega
    have HIL:=Z hil;have H2:=Z h2;have HF2:=Z (HF.trans (f2.mono fun _ _ e=>e.less'));have HU2:=Z (HU'.fr f2);have hec:bsl++enc 85=(⟨#[92,85]⟩:ByteArray).toList:=by rw[qi];rfl
    have HEC:=Z hec;clear hR h2 f2 hil hec c0;go_upto_block 11 with(go_at_call 101;refine(ez ⟨#[92,85]⟩ H2 hls9 (by decide)).mono ?_;rintro e w5 ⟨⟨n5,rfl⟩,h5,f5⟩;have H5:=Z h5;have HF5:=Z (HF2.trans (f5.mono fun _ _ e=>e.less'));have HU5:=Z (HU2.fr f5);clear h5 f5);refine(v_ C lx rr T B _ false [] p pv _ q w5 g (fO 8 R i) H5 (Z (by rw[qk,←HEC.out,qk,ba];have:=aI 85;omega)) HU5 (Z (lA HC.out)) i hi (fk HI.out hi)).last (Fr68.mk rfl rfl ⟨⟨rfl,HS.2.1,rfl⟩,rfl,rfl,rfl⟩) ?_;rintro a' wc ⟨⟨u,⟨hs,h1⟩,rfl⟩,h,f⟩;have H6:=Z h;have HF6:=Z (HF5.trans (f.mono fun _ _ e=>e.less'));have HU6:=Z (HU5.fr f);have HS:=Z hs;have H1:=Z h1;clear h f hs h1;go_wp2_with fail;refine Met.intro (hJ _ _ ⟨⟨u,⟨HS,H1⟩,rfl⟩,⟨false,?_⟩,?_,HF6⟩)
    ·have hd:R.drop 8=[]:=List.drop_eq_nil_of_le (by have:=HIL.out;omega);have h:=H6.out;rw[mN HI.out,HIL.out,List.take_length,←HEC.out] at h;rw[hd,cq,if_pos (by have:=HIL.out;omega),←qs];exact h
    ·rw[iL,←HIL.out,Nat.min_eq_right hi];exact HU6.out
   ·refine Z ?_;have HR:=Z hR;have hiR:i<R.length:=by
     rcases Nat.lt_or_ge i R.length with h|h
     ·exact h
     ·rw[List.drop_eq_nil_of_le h] at hR;cases hR
    have hcR:c=R[i]∧R2=R.drop (i+1):=by
     rw[List.drop_eq_getElem_cons hiR] at hR;cases hR;exact⟨rfl,rfl⟩
    have HCR:=Z hcR;have hu2:=HU'.fr f2;have hip:i< (fO 8 R i).length:=by rw[fk HI.out hi];exact hlt
    obtain⟨z,hcell⟩:∃z:Int,w2.cell? ⟨g,i,none⟩=some (.int .i32 z):=⟨_,hu2.cell hip⟩;have hfz:=ae hu2.b i;have hb3:=ag hu2.b i (.int .i32 c);rw[nh,hcR.1,pg hiR hlt,←hcR.1] at hb3;have hfr:Fr (· =g) w2 (w2.setCell ⟨g,i,none⟩ (.int .i32 c)):=(Fr.refl w2).setIn (S:=(· =g)) _ rfl;have H3:=Z (h2.slack.row hfr hu2.a hu2.ne hu2.b hb3);have HU3:Hid (RowU lx g (fun k=>A k∨k=g) (fO 8 R (i+1)) (w2.setCell ⟨g,i,none⟩ (.int .i32 c))):=Z ⟨hu2.a,hu2.ne,hb3⟩;have HF3:Hid (Fr (LxF C lx A) w (w2.setCell ⟨g,i,none⟩ (.int .i32 c))):=Z ((HF.trans (f2.mono fun _ _ e=>e.less')).trans (hfr.mono fun k _ e=> .inl (by have e':k=g:=e;rw[e'];exact HG.out)));clear hR h2 f2 hcR hu2 hb3 hfr hip c0;go_wp2_with fail;refine Handed.intro (8- (i+1)) (by omega) (hJ2 _ _ _ ⟨i+1,true,rfl,by omega,?_,Fr68.mk rfl rfl ⟨⟨rfl,HS.2.1,rfl⟩,rfl,rfl,by go_num⟩,?_,HU3,HF3⟩)
    ·exact hiR
    ·rw[←HCR.2];exact H3.out
  ·obtain rfl:i=8:=by omega
   go_wp2_with fail;refine Met.intro (hJ _ _ ⟨Fr68.mk rfl rfl ⟨⟨rfl,HS.2.1,rfl⟩,rfl⟩,⟨ok',?_⟩,?_,HF⟩)
   ·rw[cq,if_neg (by have:=HI.out;omega),List.append_nil];exact HB.out
   ·rw[iL,Nat.min_eq_left HI.out];exact HU'.out
end Go.Proofs.YtnclklfhjbkjhaaGreatDoor
namespace Go.Proofs.YtnclklfhjbkjhaaGreatDoor
open Tryz
open Go.RowKit Go.Lib
theorem yD{R:List Int}(w:World):(Instr.makeSlice 123 (.int .i64 4) (.int .i64 4)).run prog w= .ok (.slice (some ⟨w.heap.size,0,none⟩) 4 4) (w.alloc (.cells (gu (fO 4 R 0)) 21)):=by kernel_rfl
theorem yC{R:List Int}(w:World):(Instr.makeSlice 123 (.int .i64 8) (.int .i64 8)).run prog w= .ok (.slice (some ⟨w.heap.size,0,none⟩) 8 8) (w.alloc (.cells (gu (fO 8 R 0)) 21)):=by kernel_rfl
theorem vs:cH (· =117):=by
 intro C lx rr T B A d R p pv l q w a J K Q hd H4 HL HCP HSG HLW HF hJ hK;obtain⟨u,⟨hs,h6,h66⟩,rfl⟩:=HF;have HS:=Z hs;have hls:=HL.out;have hls9:l.length≤1000000000:=by omega
 obtain rfl:d=117:=hd;have hmk:=yD (R:=R) w;have hlt:=H4.st.lt;have hnA:¬A w.heap.size:=fun e=>Nat.lt_irrefl _ (hlt _ e)
 have hge:C.pb≤w.heap.size:=by
  have h1:=H4.low;have h2:=H4.buf.1;have h3:=H4.buf.lt;have h4:=C.lo;omega
 have hlx:=hlt lx H4.st.la;have kk:Keep w (w.alloc (.cells (gu (fO 4 R 0)) 21)):=(Fr.refl w).alloc _;have hbk:=ql w (.cells (gu (fO 4 R 0)) 21);have HA:=Z (H4.slack.more kk w.heap.size ⟨Nat.le_refl _,by simp⟩ (fun cs fz e=>by rw[hbk] at e;simp at e));have HU:Hid (RowU lx w.heap.size (fun k=>A k∨k=w.heap.size) (fO 4 R 0) (w.alloc (.cells (gu (fO 4 R 0)) 21))):=Z ⟨.inr rfl,by omega,hbk⟩;have KK:=Z kk;have HN:=Z hnA;have HLT:=Z hlt;clear hlt hlx kk hbk hnA;unfold bC;rw[hs.1,hs.2.2,h6,h66];clear hs h6 h66
 conv=>arg 2;whnf
 go_upto_block 3 with fail;refine(wn C lx rr T B A true R p pv l q _ w.heap.size HA HL HU (Z HCP.tail) ⟨hge,HN⟩).last (Fr68.mk rfl rfl ⟨⟨rfl,HS.2.1,rfl⟩,rfl,rfl,rfl⟩) ?_;rintro a' wc ⟨⟨u,⟨hs,h1⟩,rfl⟩,⟨ok2,h⟩,hu,f⟩;have f2:Fr (LxF C lx A) w wc:=((Fr.refl w).keep KK).trans f;have hsg:=HSG.fr f2 HLW H4.st.la;have hhd:(cq 117 4 R).length≤40:=by
  have h1:=aI 117;have h2:=ck R;unfold cq;split
  ·rw[qk,qk,ba];omega
  ·simp
 go_step;go_step;refine wm C lx rr T B _ ok2 (R.drop 4) p pv _ q wc w.heap.size (iL 4 R) (Z h) (Z (by rw[qk];omega)) (Z hu) (Z (lA HCP.tail)) (fk (Nat.min_le_right _ _) (Nat.min_le_left _ _)) (Z hsg) _ J K Q ⟨u,⟨hs,h1⟩,rfl⟩ ?_ hK;rintro a2 w2 ⟨hf,hx⟩;obtain⟨ok3,h3⟩:=hx.st;refine hJ _ _ ⟨hf,⟨⟨ok3,?_⟩,f2.trans (hx.fr.mono fun _ _ e=>e.less')⟩⟩;rw[xm,j7];simp only;rw[←qs];exact h3.less (fun _ e=> .inl e) H4.st.la
theorem xJ:cH (· =85):=by
 intro C lx rr T B A d R p pv l q w a J K Q hd H4 HL HCP HSG HLW HF hJ hK;obtain⟨u,⟨hs,h6,h66⟩,rfl⟩:=HF;have HS:=Z hs;have hls:=HL.out;have hls9:l.length≤1000000000:=by omega
 obtain rfl:d=85:=hd;have hmk:=yC (R:=R) w;have hlt:=H4.st.lt;have hnA:¬A w.heap.size:=fun e=>Nat.lt_irrefl _ (hlt _ e)
 have hge:C.pb≤w.heap.size:=by
  have h1:=H4.low;have h2:=H4.buf.1;have h3:=H4.buf.lt;have h4:=C.lo;omega
 have hlx:=hlt lx H4.st.la;have kk:Keep w (w.alloc (.cells (gu (fO 8 R 0)) 21)):=(Fr.refl w).alloc _;have hbk:=ql w (.cells (gu (fO 8 R 0)) 21);have HA:=Z (H4.slack.more kk w.heap.size ⟨Nat.le_refl _,by simp⟩ (fun cs fz e=>by rw[hbk] at e;simp at e));have HU:Hid (RowU lx w.heap.size (fun k=>A k∨k=w.heap.size) (fO 8 R 0) (w.alloc (.cells (gu (fO 8 R 0)) 21))):=Z ⟨.inr rfl,by omega,hbk⟩;have KK:=Z kk;have HN:=Z hnA;have HLT:=Z hlt;clear hlt hlx kk hbk hnA;unfold bC;rw[hs.1,hs.2.2,h6,h66];clear hs h6 h66
 conv=>arg 2;whnf
 go_upto_block 9 with fail;refine(wh C lx rr T B A true R p pv l q _ w.heap.size HA HL HU (Z HCP.tail) ⟨hge,HN⟩).last (Fr68.mk rfl rfl ⟨⟨rfl,HS.2.1,rfl⟩,rfl,rfl,rfl⟩) ?_;rintro a' wc ⟨⟨u,⟨hs,h1⟩,rfl⟩,⟨ok2,h⟩,hu,f⟩;have f2:Fr (LxF C lx A) w wc:=((Fr.refl w).keep KK).trans f;have hsg:=HSG.fr f2 HLW H4.st.la;have hhd:(cq 85 8 R).length≤40:=by
  have h1:=aI 85;have h2:=ck R;unfold cq;split
  ·rw[qk,qk,ba];omega
  ·simp
 go_step;go_step;refine wg C lx rr T B _ ok2 (R.drop 8) p pv _ q wc w.heap.size (iL 8 R) (Z h) (Z (by rw[qk];omega)) (Z hu) (Z (lA HCP.tail)) (fk (Nat.min_le_right _ _) (Nat.min_le_left _ _)) (Z hsg) _ J K Q ⟨u,⟨hs,h1⟩,rfl⟩ ?_ hK;rintro a2 w2 ⟨hf,hx⟩;obtain⟨ok3,h3⟩:=hx.st;refine hJ _ _ ⟨hf,⟨⟨ok3,?_⟩,f2.trans (hx.fr.mono fun _ _ e=>e.less')⟩⟩;rw[yN,j7];simp only;rw[←qs];exact h3.less (fun _ e=> .inl e) H4.st.la
theorem vp:cH fun _=>True:=by
 intro C lx rr T B A d R p pv l q w a J K Q _;rcases s_ d with(h|h|h|h|h|h|h|h|h|h|h)|h|(h|h)|h|h|h
 ·exact xG C lx rr T B A d R p pv l q w a J K Q h
 ·exact xF C lx rr T B A d R p pv l q w a J K Q h
 ·exact vy C lx rr T B A d R p pv l q w a J K Q h
 ·exact vw C lx rr T B A d R p pv l q w a J K Q h
 ·exact vv C lx rr T B A d R p pv l q w a J K Q h
 ·exact vt C lx rr T B A d R p pv l q w a J K Q h
 ·exact vr C lx rr T B A d R p pv l q w a J K Q h
 ·exact xH C lx rr T B A d R p pv l q w a J K Q h
 ·exact xL C lx rr T B A d R p pv l q w a J K Q h
 ·exact xM C lx rr T B A d R p pv l q w a J K Q h
 ·exact xK C lx rr T B A d R p pv l q w a J K Q h
 ·exact yZ C lx rr T B A d R p pv l q w a J K Q h
 ·exact vq C lx rr T B A d R p pv l q w a J K Q h
 ·exact xI C lx rr T B A d R p pv l q w a J K Q h
 ·exact yY C lx rr T B A d R p pv l q w a J K Q h
 ·exact vs C lx rr T B A d R p pv l q w a J K Q h
 ·exact xJ C lx rr T B A d R p pv l q w a J K Q h
theorem wC{C:RC}{lx rr T B:Nat}{A:Nat→Prop}{d:Int}{R:List Int}{p pv:Ps}{l:List UInt8}{q:Value}{w:World}{a:Act}{Q:Exit→Act→World→Prop}
  (H:Hid (BufSt C lx rr A true T 1 R p pv B B l w)) (HL:Hid (l.length≤900000000)) (HCP:Hid (Cp (d::R))) (HSG:Hid (SG w)) (HLW:Hid (¬A 11∧¬A 12)) (hF:Fr68 (fun u=>dh lx B q u∧u 6= .int .i32 d∧u 66= .int .i32 d) a)
  (hQ:∀a' wx,Fr68 (dh lx B q) a'∧EscP C lx rr T B A p pv l (aU d R) w wx→Q .normal a' wx):sw68.wp prog Q a w:=by
 refine wp_mono (vp C lx rr T B A d R p pv l q w a (fun a' wx=>Fr68 (dh lx B q) a'∧EscP C lx rr T B A p pv l (aU d R) w wx) (fun a' wx=>Fr68 (dh lx B q) a'∧EscP C lx rr T B A p pv l (aU d R) w wx) (fun _ _ _=>False) trivial H HL HCP HSG HLW hF (fun _ _ h=>h) (fun _ _ h=>h)) ?_;intro e a' wx hh;cases e<;>first|exact hQ _ _ hh|exact False.elim hh
theorem mI(C:RC)(lx rr T:Nat)(A:Nat→Prop)(ok:Bool)(q:Int)(R:List Int)(p pv:Ps)(w:World)(h:LxSt C lx rr A ok T 0 R p pv w)(hq:q=39∨q=34)(hcp:Cp R)(hsg:SG w)(hlow:¬A 11∧¬A 12):
  Calls prog 68 #[.pointer (some ⟨lx,0,none⟩),.int .i32 q] w (tG C lx rr A T (strF q R [] p) pv w):=by
 have HS:=Z h;have hlen:=h.len;have hq92:(92:Int)≠q:=by omega
 have HQ:=Z hq92;have HCP:=Z hcp;have HSG:=Z hsg;have HLW:=Z hlow;clear h hcp hsg hq92 hlow;have HB0:=Z (BufSt.new HS);have HF0:Hid (Fr (LxF C lx A) w (w.alloc (.cells #[.slice none 0 0,.int .i64 0,.int .i8 0] 162))):=Z ((Fr.refl w).alloc _);go_enter func68,ntmps68;go_upto_block 0 with fail;refine wp_cut (fun a' wx=>Fr68 (fun u=>u 5= .pointer (some ⟨w.heap.size,0,none⟩)) a'∧∃ (R':List Int) (p':Ps) (l':List UInt8),strF q R [] p=⟨l',p',R'⟩∧Fr (LxF C lx A) w wx∧BufSt C lx rr A false T 0 R' p' pv w.heap.size w.heap.size l' wx) ?rest ?first
 case rest=>
  rintro a' wc ⟨⟨u,h5,rfl⟩,R',p',l',he,hf,hb⟩;have HE:=Z he;have HF:=Z hf;have HB:=Z hb;clear he hf hb;unfold bC;rw[h5];clear h5;go_wp2_with (go_at_call 102;refine(vf HB).mono ?_;rintro e w2 ⟨⟨t,rfl,ht⟩,kk⟩);refine qh (results_tmp results68 _ _ _) rfl ⟨t,rfl,?_,?_,HF.keep kk⟩
  ·rw[ht,HE.out]
  ·rw[HE.out];exact HB.st.any.keep kk
 case first=>
  intro J K hJ hK;go_wp2_with fail;refine wp_loop_ghost_k (fun k a' wx=>∃ (R':List Int) (p':Ps) (ok':Bool) (l':List UInt8),k=R'.length∧Fr68 (dh lx w.heap.size (.int .i32 q)) a'∧SL1 C lx rr A T q R p pv w.heap.size w R' p' ok' l' wx) R.length ?_ ?_
  ·exact⟨R,p,ok,[],rfl,Fr68.mk rfl rfl ⟨rfl,rfl,rfl⟩,⟨rfl,HF0.out,HB0.out,HCP.out,by simp⟩⟩
  ·rintro gk a' wr ⟨R',p',ok',l',rfl,⟨u,hs,rfl⟩,hl⟩ J2 K2 hJ2 hK2;have HL:=Z hl;have HSL:=Z hs;have c0:=hl.st.st.cell;have hls:=hl.small hlen;have hls9:l'.length≤1000000000:=by omega
   unfold bC;rw[hs.1,hs.2.1,hs.2.2];clear hl hs;go_wp2_with first
    |(go_at_call 62;refine(dG HL.st).mono ?_;rintro e w2 ⟨f2,(⟨hR,h2,b,rfl⟩|⟨c,R2,hR,h2,rfl⟩)⟩<;>refine Hid.out ?_)
   ·refine Z ?_;have HR:=Z hR;have H2:=Z h2;have HF2:=Z f2;clear hR h2 f2;go_wp2_with fail;refine Met.intro (hJ _ _ ⟨Fr68.mk rfl rfl rfl,[],p',l',?_,HL.fr.trans HF2,H2⟩);rw[HL.eq,HR.out,iQ]
   ·refine Z ?_;have HR:=Z hR;have H2:=Z h2;have HF2:=Z (HL.fr.trans f2);have hcp2:=HL.cp;rw[hR] at hcp2;have hln:=HL.len;rw[hR,List.length_cons] at hln;have HLN:=Z hln;have HCP2:=Z hcp2;clear hR h2 f2 hcp2 hln;by_cases hcq:c=q
    ·have HCQ:=Z hcq;have qq:(c==q)=true:=beq_iff_eq.2 hcq;clear hcq;go_wp2_with (go_at_call 64;refine(oH c H2).mono ?_;rintro e w3 ⟨rfl,h3,f3⟩;have H3:=Z h3;have HF3:=Z (HF2.trans f3);clear h3 f3);refine Met.intro (hJ _ _ ⟨Fr68.mk rfl rfl rfl,R2,aC p' c,l',?_,HF3,H3.any⟩);rw[HL.eq,HR.out,HCQ.out,mv]
    ·have HCQ:=Z hcq;have qq:(c==q)=false:=beq_eq_false_iff_ne.2 hcq;clear hcq;by_cases h92:c=92
     ·subst h92;go_upto_block 2 with first
       |(go_at_call 64;refine(oH 92 H2).mono ?_;rintro e w3 ⟨rfl,h3,f3⟩;have H3:=Z h3;have HF3:=Z (HF2.trans f3);have c3:=h3.st.cell;clear h3 f3)
       |(go_at_call 62;refine(dG H3).mono ?_;rintro e w4 ⟨f4,(⟨hR4,h4,b,rfl⟩|⟨d,R4,hR4,h4,rfl⟩)⟩<;>refine Hid.out ?_)
      ·refine Z ?_;have HR4:=Z hR4;have H4:=Z h4;have HF4:=Z (HF3.trans f4);clear hR4 h4 f4;go_wp2_with (go_at_call 98;refine(aX 92 H4 hls9).mono ?_;rintro e w5 ⟨rfl,h5,f5⟩;have H5:=Z h5;have HF5:=Z (HF4.trans f5);clear h5 f5);refine Met.intro (hJ _ _ ⟨Fr68.mk rfl rfl rfl,[],aC p' 92,l'++bsl,?_,HF5,H5⟩);rw[HL.eq,HR.out,HR4.out,mw HQ.out]
      ·refine Z ?_;have HR4:=Z hR4;have H4:=Z h4;have HF4:=Z (HF3.trans f4);have hcp4:=HCP2.tail;rw[hR4] at hcp4;have HCP4:=Z hcp4;have hln:=HLN.out;rw[hR4,List.length_cons] at hln;have HLN4:=Z hln;have hsg4:=HSG.fr HF4 HLW h4.st.la;have HSG4:=Z hsg4;clear hR4 h4 f4 hcp4 hln hsg4;go_upto_block 2 with fail;refine wC H4 (Z (by omega)) HCP4 HSG4 HLW (Fr68.mk rfl rfl ⟨⟨rfl,rfl,rfl⟩,rfl,rfl⟩) ?_;rintro a2 wx ⟨hf,hx⟩;obtain⟨ok5,h5⟩:=hx.st;have HX:=Z h5;have HFX:=Z (HF4.trans hx.fr);have HFF:=Z hf;clear hx h5 hf;go_wp2_with fail;refine Handed.intro (aU d R4).rest.length ?_ (hJ2 _ _ _ ⟨(aU d R4).rest,aC p' 92,ok5,_,rfl,HFF,⟨?_,HFX,HX,xh HCP4,?_⟩⟩)
       ·have:=gA d R4;rw[HR.out,HR4.out];simp;omega
       ·rw[HL.eq,HR.out,HR4.out,o8 HQ.out]
       ·have h1:=pH d R4;have h2:=HLN4.out;rw[qk];omega
     ·have H92:=Z h92;have q92:(c==92)=false:=beq_eq_false_iff_ne.2 h92;have hc0:=HCP2.head;clear h92;go_wp2_with first
       |(go_at_call 64;refine(oH c H2).mono ?_;rintro e w3 ⟨rfl,h3,f3⟩;have H3:=Z h3;have HF3:=Z (HF2.trans f3);clear h3 f3)
       |(go_at_call 99;refine(bJ c (by omega) (by omega) H3 hls9).mono ?_;rintro e w4 ⟨⟨n4,rfl⟩,h4,f4⟩;have H4:=Z h4;have HF4:=Z (HF3.trans f4);clear h4 f4)
      refine Handed.intro R2.length (by rw[HR.out];simp) (hJ2 _ _ _ ⟨R2,aC p' c,true,l'++enc c,rfl,Fr68.mk rfl rfl ⟨rfl,rfl,rfl⟩,⟨?_,HF4.out,H4.out,HCP2.tail,?_⟩⟩)
      ·rw[HL.eq,HR.out,j_ HCQ.out H92.out]
      ·have:=HLN.out;have:=aI c;rw[qk];omega
end Go.Proofs.YtnclklfhjbkjhaaGreatDoor
