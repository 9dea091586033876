/- Part of the proof: N3 N4. -/
import Derived.Test.YtnclklfhjbkjhaaGreatDoorNa
import Derived.MapKept
set_option maxRecDepth 1000000
set_option maxHeartbeats 40000000
set_option linter.unusedSimpArgs false
namespace Go.Proofs.YtnclklfhjbkjhaaGreatDoor
open Tryz
open Go.RowKit Go.Lib
theorem gK{s:Sc}{x:Lx}(h:s.pkg=none):bU s x=s:=by unfold bU;rw[h]
theorem dS{s:Sc}{x:Lx}{l:List (List UInt8)}(h:s.pkg=some l)(hk:x.k=65539):bU s x={s with errs:=if l≠[]∧l.getLast?≠some df then s.errs++ [fu x.pv] else s.errs,pkg:=some (l++ [txt x])}:=by unfold bU;rw[h];simp only;rw[if_pos hk]
theorem eM{s:Sc}{x:Lx}{l:List (List UInt8)}(h:s.pkg=some l)(hk:x.k=46):bU s x={s with errs:=if l=[]∨l.getLast?=some df then s.errs++ [fu x.pv] else s.errs,pkg:=some (l++ [df])}:=by unfold bU;rw[h];simp only;rw[if_neg (by omega),if_pos hk]
theorem dU{s:Sc}{x:Lx}{l:List (List UInt8)}(h:s.pkg=some l)(h1:x.k≠65539)(h2:x.k≠46)(hl:l≠[]):bU s x={s with errs:=(if x.k=59 then s.errs else s.errs++ [fu x.pv]) ++ (if l.getLast?=some df then[fu s.pl] else[]),name:=l.flatten,pkg:=none}:=by
 unfold bU;rw[h];simp only;rw[if_neg h1,if_neg h2,if_pos hl]
theorem i7{s:Sc}{x:Lx}(h:s.pkg=some [])(h1:x.k≠65539)(h2:x.k≠46):bU s x={s with errs:=s.errs++ [fu x.pv],pkg:=none}:=by
 unfold bU;rw[h];simp only;rw[if_neg h1,if_neg h2,if_neg (by simp)]
section
variable {C:RC} {rr T:Nat} {R:List Int} {p pv:Ps} {fn:ByteArray} {b:Bl} {s:Sc} {A P:Nat→Prop} {V:Nat→Value} {N:Nat→Nat} {X:Nat→List Value} {w:World}
theorem ScS.pkgRow(h:ScS C rr T R p pv fn b s A P V N X w){v:Value}{n:Nat}{x:List Value}(hv:V 1=v)(hn:N 1=n)(hx:X 1=x):w.ownsRow (C.bb+1) 9 1 v n x:=by
 have h1:=h.sb.rows 1 (by decide);rw[hv,hn,hx] at h1;exact h1
theorem last_snoc{α:Type}{l:List α}(h:l≠[]):∃r a,l=r++ [a]:=by
 rcases List.eq_nil_or_concat l with e|⟨r,a,e⟩
 ·exact absurd e h
 ·exact⟨r,a,by rw[e,List.concat_eq_append]⟩
theorem last_cell{B g m c:Nat}{tl:ByteArray}{ss:List ByteArray}(h:w.ownsRow B 9 1 (.slice (some ⟨g,0,none⟩) (m+1) c) (m+1) ((ss++ [tl]).map .string))(hs:ss.length=m):w.cell? ⟨g,m,none⟩=some (.string tl)∧m+1≤c∧c≤maxLen:=by
 have hc:=bY h m (by simp[hs]);refine⟨?_,hc.2⟩;rw[hc.1];subst hs;simp
end
theorem rz:xW (ve 34) bU:=by
 intro C rr T R p fn b s x a w J K Q h hsm htx hpv hpl htk hJ hK;obtain⟨A,P,V,N,X,hs,u,⟨hu,ht⟩,rfl⟩:=h;have HU:=Z hu;have HT:=Z ht;have HS:=Z hs;have HSM:=Z hsm;unfold gP;rw[hu.u4,hu.u6,hu.u7,hu.u8,hu.u9,hu.u10,hu.u11,hu.u12,hu.u13,hu.u14,hu.u15,hu.u16,hu.u17,hu.u18,ht.1];unfold zp;clear hu
 conv=>arg 2;whnf
 have hrow:=hs.rel.pkg;cases himp:s.pkg with
 |none=>
  rw[himp] at hrow;obtain⟨hv,-,-⟩:=hrow;rw[hv];have HV:=Z hv;have HI:=Z himp;clear hv himp hs ht hsm;go_wp2_with fail;refine Met.intro (hJ _ _ ?_);rw[gK HI.out];exact⟨A,P,V,N,X,HS,Fr18.mk rfl rfl ⟨⟨rfl,rfl,rfl,rfl,rfl,HV.symm,rfl,rfl,rfl,rfl,rfl,rfl,rfl,rfl⟩,rfl,HT.2⟩⟩
 |some l=>
  rw[himp] at hrow;obtain⟨⟨g,c,hv⟩,hn,ss,hX,hss⟩:=hrow;have HN:=Z hn;have HI:=Z himp;have HX:=Z hX;have HSS:=Z hss;have hm2:N 2≤1000000:=by
   have:=hs.rel.errs.1;have:=hsm.errs;omega
  have hm2b:N 2+1≤1000000:=by
   have:=hs.rel.errs.1;have:=hsm.errs;omega
  obtain⟨hcf,hcg,hcx,hlb⟩:=hs.cells;have HLB:=Z hlb;have hmN:N 1≤500000:=by have:=(hsm.pkg l himp).1;omega
  obtain⟨hp1,hp2,hp3,hp4⟩:=hpl;clear himp hX hlb hsm;by_cases h3:x.k=65539
  ·obtain⟨t,hxt⟩:∃t,x.t=some t:=by
    cases e:x.t with
    |none=>exact absurd e (htk (.inr h3))
    |some t=>exact⟨t,rfl⟩
   have ht2:=ht.2;rw[hxt] at ht2;obtain⟨tt,hut,htt⟩:=ht2;have HTX:Hid (txt x=tt.toList):=Z (by unfold txt;rw[hxt,htt];rfl);have has:=zu tt;rw[h3,hut];have H3:=Z h3;have HUT:=Z hut;clear ht hut hxt htt h3;by_cases hl:l=[]
   ·subst hl;have hn0:N 1=0:=hn;rw[hn0] at hv;rw[hv];have HV:=Z hv;have HNM:=Z hn0;have hm1:0≤1000000:=by decide
    clear hv hn hn0 hs hcf hcg hcx;go_wp2_with (refine appV 89 9 _ 1 16 underlying89 jn rfl (by decide) (by decide) (B:=C.bb+1) ((HS.keep ((Fr.refl w).alloc (.cells #[.string tt] 9))).pkgRow HV.out HNM.out rfl) (HS.keep ((Fr.refl w).alloc (.cells #[.string tt] 9))).bbl hm1 (cs:=#[.string tt]) rfl (by simp[Value.oneCell']) (ql w _) (by rfl) (by rfl) ?_;intro v' w' hv hr f hos;have HV':=Z hv;have HR':=Z hr;have HF':=Z f;have HO':=Z hos;clear hv hr f hos);have hV':∃g c,v'= .slice (some ⟨g,0,none⟩) (N 1+1) c∧g<w'.heap.size:=by rw[HNM.out];exact HV'.out
    have hR:w'.ownsRow (C.bb+1) 9 1 v' (N 1+1) (X 1++ [.string tt]):=by rw[HNM.out];exact HR'.out
    have hF:=HF'.out;have hO:=HO'.out;rw[←HV.out] at hF hO;have h2:=(HS.keep ((Fr.refl w).alloc (.cells #[.string tt] 9))).pkgMore HI (t:=tt) hV' hR hF hO;refine Met.intro (hJ _ _ ?_);rw[dS HI.out H3.out,if_neg (fun e=>e.1 rfl),HTX.out];exact⟨_,_,_,_,_,h2,Fr18.mk rfl rfl ⟨⟨rfl,rfl,rfl,rfl,rfl,rfl,rfl,rfl,rfl,rfl,rfl,rfl,rfl,rfl⟩,by rw[H3.out];rfl,HUT.out▸HT.2⟩⟩
   ·obtain⟨l0,t0,rfl⟩:=last_snoc hl;obtain⟨s0,tl,rfl⟩:∃s0 tl,ss=s0++ [tl]:=last_snoc (fun e=>by subst e;simp at hss);have hl0:s0.map (·.toList)=l0∧tl.toList=t0:=by
     rw[List.map_append] at hss;have:=List.append_inj' hss rfl;exact⟨this.1,by simpa using this.2⟩
    have hgl:(l0++ [t0]).getLast?=some t0:=by simp
    have HGL:=Z hgl;have HL0:=Z hl0;have hnm:N 1=s0.length+1:=by rw[hn,←hl0.1];simp
    rw[hnm] at hv;rw[hv];have HV:=Z hv;have HNM:=Z hnm;obtain⟨hcl,hcap,hmax⟩:=last_cell (HS.pkgRow HV HNM HX) rfl;have hm1:s0.length+1≤1000000:=by omega
    have hml:(s0.length:Int)+1≤1000000:=by omega
    have q0:((s0.length:Int)+1==0)=false:=bf (by omega);clear hmax;clear hl hss hl0 hgl hn hnm hv hs;by_cases hdot:t0=df
    ·have ep:tl=⟨#[46]⟩:=dw (by rw[HL0.2,hdot,qi];rfl);subst ep;have HD:=Z hdot;clear hdot;go_wp2_with (refine appV 89 9 _ 1 16 underlying89 jn rfl (by decide) (by decide) (B:=C.bb+1) ((HS.keep ((Fr.refl w).alloc (.cells #[.string tt] 9))).pkgRow HV.out HNM.out rfl) (HS.keep ((Fr.refl w).alloc (.cells #[.string tt] 9))).bbl hm1 (cs:=#[.string tt]) rfl (by simp[Value.oneCell']) (ql w _) (by rfl) (by rfl) ?_;intro v' w' hv hr f hos;have HV':=Z hv;have HR':=Z hr;have HF':=Z f;have HO':=Z hos;clear hv hr f hos);have hV':∃g c,v'= .slice (some ⟨g,0,none⟩) (N 1+1) c∧g<w'.heap.size:=by rw[HNM.out];exact HV'.out
     have hR:w'.ownsRow (C.bb+1) 9 1 v' (N 1+1) (X 1++ [.string tt]):=by rw[HNM.out];exact HR'.out
     have hF:=HF'.out;have hO:=HO'.out;rw[←HV.out] at hF hO;have h2:=(HS.keep ((Fr.refl w).alloc (.cells #[.string tt] 9))).pkgMore HI (t:=tt) hV' hR hF hO;refine Met.intro (hJ _ _ ?_);rw[dS HI.out H3.out,if_neg (fun e=>e.2 (by rw[HGL.out,HD.out])),HTX.out];exact⟨_,_,_,_,_,h2,Fr18.mk rfl rfl ⟨⟨rfl,rfl,rfl,rfl,rfl,rfl,rfl,rfl,rfl,rfl,rfl,rfl,rfl,rfl⟩,by rw[H3.out];rfl,HUT.out▸HT.2⟩⟩
    ·have hd:(tl.toList== [46])=false:=bf (by rw[HL0.2];exact hdot);have HD:=Z hdot;clear hdot;go_wp2_with first
      |(go_at_call 32;refine(bF fn b.fb b.gb b.xb b.lx rr _ x.pv 1000000 hpv (by decide) _ hcf hcg hcx HLB).mono ?_;rintro e w1 ⟨rfl,k1⟩;have K1:=Z k1;clear k1)
      |(go_at_call 35;refine(be (bS fn (x.pv.ln+1) (x.pv.cl+1)) _ _ _).mono ?_;rintro e w3 ⟨k,rfl,hk,hb,kk⟩;have H5:=Z (HS.err5 K1 hk hb kk);clear hk hb kk)
      |(refine appV 71 75 _ 1 16 underlying71 dm rfl (by decide) (by decide) (B:=C.bb+1) (xs:=X 2) (m:=N 2) (H5.1.sb.rows 2 (by decide)) H5.1.bbl hm2 (cs:=#[ce k]) rfl (by simp[ce,Value.oneCell']) (ql w3 _) (by rfl) (by rfl) ?_;intro v6 w6 hv6 hr6 f6 ho6;have H6:=Z (H5.1.errMore (e:=fu x.pv) (.inr rfl) H5.2 hr6 f6 ho6);clear hv6 hr6 f6 ho6)
      |(refine appV 89 9 _ 1 16 underlying89 jn rfl (by decide) (by decide) (B:=C.bb+1) ((H6.keep ((Fr.refl w6).alloc (.cells #[.string tt] 9))).pkgRow HV.out HNM.out rfl) (H6.keep ((Fr.refl w6).alloc (.cells #[.string tt] 9))).bbl hm1 (cs:=#[.string tt]) rfl (by simp[Value.oneCell']) (ql w6 _) (by rfl) (by rfl) ?_;intro v' w' hv hr f hos;have HV':=Z hv;have HR':=Z hr;have HF':=Z f;have HO':=Z hos;clear hv hr f hos)
     have hV':∃g c,v'= .slice (some ⟨g,0,none⟩) (N 1+1) c∧g<w'.heap.size:=by rw[HNM.out];exact HV'.out
     have hR:w'.ownsRow (C.bb+1) 9 1 v' (N 1+1) (X 1++ [.string tt]):=by rw[HNM.out];exact HR'.out
     have hF:=HF'.out;have hO:=HO'.out;rw[←HV.out] at hF hO;have h2:=(H6.keep ((Fr.refl w6).alloc (.cells #[.string tt] 9))).pkgMore HI (t:=tt) hV' hR hF hO;refine Met.intro (hJ _ _ ?_);rw[dS HI.out H3.out,if_pos ⟨by simp,by rw[HGL.out];exact fun e=>HD.out (Option.some.inj e)⟩,HTX.out];exact⟨_,_,_,_,_,h2,Fr18.mk rfl rfl ⟨⟨rfl,rfl,rfl,rfl,rfl,rfl,rfl,rfl,rfl,rfl,rfl,rfl,rfl,rfl⟩,by rw[H3.out];rfl,HUT.out▸HT.2⟩⟩
  have H3:=Z h3;have q39:(x.k==65539)=false:=beq_eq_false_iff_ne.2 h3;clear h3;by_cases h46:x.k=46
  ·rw[h46];have H46:=Z h46;have hdt:(⟨#[46]⟩:ByteArray).toList=df:=by rw[qi];rfl
   have HDT:=Z hdt;clear ht h46 q39 hdt;by_cases hl:l=[]
   ·subst hl;have hn0:N 1=0:=hn;rw[hn0] at hv;rw[hv];have HV:=Z hv;have HNM:=Z hn0;have hm1:0≤1000000:=by decide
    clear hv hn hn0 hs;go_wp2_with first
     |(go_at_call 32;refine(bF fn b.fb b.gb b.xb b.lx rr _ x.pv 1000000 hpv (by decide) _ hcf hcg hcx HLB).mono ?_;rintro e w1 ⟨rfl,k1⟩;have K1:=Z k1;clear k1)
     |(go_at_call 35;refine(be (bS fn (x.pv.ln+1) (x.pv.cl+1)) _ _ _).mono ?_;rintro e w3 ⟨k,rfl,hk,hb,kk⟩;have H5:=Z (HS.err5 K1 hk hb kk);clear hk hb kk)
     |(refine appV 71 75 _ 1 16 underlying71 dm rfl (by decide) (by decide) (B:=C.bb+1) (xs:=X 2) (m:=N 2) (H5.1.sb.rows 2 (by decide)) H5.1.bbl hm2 (cs:=#[ce k]) rfl (by simp[ce,Value.oneCell']) (ql w3 _) (by rfl) (by rfl) ?_;intro v6 w6 hv6 hr6 f6 ho6;have H6:=Z (H5.1.errMore (e:=fu x.pv) (.inr rfl) H5.2 hr6 f6 ho6);clear hv6 hr6 f6 ho6)
     |(refine appV 89 9 _ 1 16 underlying89 jn rfl (by decide) (by decide) (B:=C.bb+1) ((H6.keep ((Fr.refl w6).alloc (.cells #[.string ⟨#[46]⟩] 9))).pkgRow HV.out HNM.out rfl) (H6.keep ((Fr.refl w6).alloc (.cells #[.string ⟨#[46]⟩] 9))).bbl hm1 (cs:=#[.string ⟨#[46]⟩]) rfl (by simp[Value.oneCell']) (ql w6 _) (by rfl) (by rfl) ?_;intro v' w' hv hr f hos;have HV':=Z hv;have HR':=Z hr;have HF':=Z f;have HO':=Z hos;clear hv hr f hos)
    have hV':∃g c,v'= .slice (some ⟨g,0,none⟩) (N 1+1) c∧g<w'.heap.size:=by rw[HNM.out];exact HV'.out
    have hR:w'.ownsRow (C.bb+1) 9 1 v' (N 1+1) (X 1++ [.string ⟨#[46]⟩]):=by rw[HNM.out];exact HR'.out
    have hF:=HF'.out;have hO:=HO'.out;rw[←HV.out] at hF hO;have h2:=(H6.keep ((Fr.refl w6).alloc (.cells #[.string ⟨#[46]⟩] 9))).pkgMore HI (t:=⟨#[46]⟩) hV' hR hF hO;refine Met.intro (hJ _ _ ?_);rw[eM HI.out H46.out,if_pos (.inl rfl)];rw[HDT.out] at h2;exact⟨_,_,_,_,_,h2,Fr18.mk rfl rfl ⟨⟨rfl,rfl,rfl,rfl,rfl,rfl,rfl,rfl,rfl,rfl,rfl,rfl,rfl,rfl⟩,by rw[H46.out];rfl,HT.2⟩⟩
   ·obtain⟨l0,t0,rfl⟩:=last_snoc hl;obtain⟨s0,tl,rfl⟩:∃s0 tl,ss=s0++ [tl]:=last_snoc (fun e=>by subst e;simp at hss);have hl0:s0.map (·.toList)=l0∧tl.toList=t0:=by
     rw[List.map_append] at hss;have:=List.append_inj' hss rfl;exact⟨this.1,by simpa using this.2⟩
    have hgl:(l0++ [t0]).getLast?=some t0:=by simp
    have HGL:=Z hgl;have HL0:=Z hl0;have hnm:N 1=s0.length+1:=by rw[hn,←hl0.1];simp
    rw[hnm] at hv;rw[hv];have HV:=Z hv;have HNM:=Z hnm;obtain⟨hcl,hcap,hmax⟩:=last_cell (HS.pkgRow HV HNM HX) rfl;have hm1:s0.length+1≤1000000:=by omega
    have hml:(s0.length:Int)+1≤1000000:=by omega
    have q0:((s0.length:Int)+1==0)=false:=bf (by omega);clear hmax;clear hl hss hl0 hgl hn hnm hv hs;by_cases hdot:t0=df
    ·have ep:tl=⟨#[46]⟩:=dw (by rw[HL0.2,hdot,qi];rfl);subst ep;have HD:=Z hdot;clear hdot;go_wp2_with first
      |(go_at_call 32;refine(bF fn b.fb b.gb b.xb b.lx rr _ x.pv 1000000 hpv (by decide) _ hcf hcg hcx HLB).mono ?_;rintro e w1 ⟨rfl,k1⟩;have K1:=Z k1;clear k1)
      |(go_at_call 35;refine(be (bS fn (x.pv.ln+1) (x.pv.cl+1)) _ _ _).mono ?_;rintro e w3 ⟨k,rfl,hk,hb,kk⟩;have H5:=Z (HS.err5 K1 hk hb kk);clear hk hb kk)
      |(refine appV 71 75 _ 1 16 underlying71 dm rfl (by decide) (by decide) (B:=C.bb+1) (xs:=X 2) (m:=N 2) (H5.1.sb.rows 2 (by decide)) H5.1.bbl hm2 (cs:=#[ce k]) rfl (by simp[ce,Value.oneCell']) (ql w3 _) (by rfl) (by rfl) ?_;intro v6 w6 hv6 hr6 f6 ho6;have H6:=Z (H5.1.errMore (e:=fu x.pv) (.inr rfl) H5.2 hr6 f6 ho6);clear hv6 hr6 f6 ho6)
      |(refine appV 89 9 _ 1 16 underlying89 jn rfl (by decide) (by decide) (B:=C.bb+1) ((H6.keep ((Fr.refl w6).alloc (.cells #[.string ⟨#[46]⟩] 9))).pkgRow HV.out HNM.out rfl) (H6.keep ((Fr.refl w6).alloc (.cells #[.string ⟨#[46]⟩] 9))).bbl hm1 (cs:=#[.string ⟨#[46]⟩]) rfl (by simp[Value.oneCell']) (ql w6 _) (by rfl) (by rfl) ?_;intro v' w' hv hr f hos;have HV':=Z hv;have HR':=Z hr;have HF':=Z f;have HO':=Z hos;clear hv hr f hos)
     have hV':∃g c,v'= .slice (some ⟨g,0,none⟩) (N 1+1) c∧g<w'.heap.size:=by rw[HNM.out];exact HV'.out
     have hR:w'.ownsRow (C.bb+1) 9 1 v' (N 1+1) (X 1++ [.string ⟨#[46]⟩]):=by rw[HNM.out];exact HR'.out
     have hF:=HF'.out;have hO:=HO'.out;rw[←HV.out] at hF hO;have h2:=(H6.keep ((Fr.refl w6).alloc (.cells #[.string ⟨#[46]⟩] 9))).pkgMore HI (t:=⟨#[46]⟩) hV' hR hF hO;refine Met.intro (hJ _ _ ?_);rw[eM HI.out H46.out,if_pos (.inr (by rw[HGL.out,HD.out]))];rw[HDT.out] at h2;exact⟨_,_,_,_,_,h2,Fr18.mk rfl rfl ⟨⟨rfl,rfl,rfl,rfl,rfl,rfl,rfl,rfl,rfl,rfl,rfl,rfl,rfl,rfl⟩,by rw[H46.out];rfl,HT.2⟩⟩
    ·have hd:(tl.toList== [46])=false:=bf (by rw[HL0.2];exact hdot);have HD:=Z hdot;clear hdot;go_wp2_with (refine appV 89 9 _ 1 16 underlying89 jn rfl (by decide) (by decide) (B:=C.bb+1) ((HS.keep ((Fr.refl w).alloc (.cells #[.string ⟨#[46]⟩] 9))).pkgRow HV.out HNM.out rfl) (HS.keep ((Fr.refl w).alloc (.cells #[.string ⟨#[46]⟩] 9))).bbl hm1 (cs:=#[.string ⟨#[46]⟩]) rfl (by simp[Value.oneCell']) (ql w _) (by rfl) (by rfl) ?_;intro v' w' hv hr f hos;have HV':=Z hv;have HR':=Z hr;have HF':=Z f;have HO':=Z hos;clear hv hr f hos);have hV':∃g c,v'= .slice (some ⟨g,0,none⟩) (N 1+1) c∧g<w'.heap.size:=by rw[HNM.out];exact HV'.out
     have hR:w'.ownsRow (C.bb+1) 9 1 v' (N 1+1) (X 1++ [.string ⟨#[46]⟩]):=by rw[HNM.out];exact HR'.out
     have hF:=HF'.out;have hO:=HO'.out;rw[←HV.out] at hF hO;have h2:=(HS.keep ((Fr.refl w).alloc (.cells #[.string ⟨#[46]⟩] 9))).pkgMore HI (t:=⟨#[46]⟩) hV' hR hF hO;refine Met.intro (hJ _ _ ?_);rw[eM HI.out H46.out,if_neg (fun e=>e.elim (fun e=>by simp at e) (fun e=>HD.out (Option.some.inj (HGL.symm.trans e))))];rw[HDT.out] at h2;exact⟨_,_,_,_,_,h2,Fr18.mk rfl rfl ⟨⟨rfl,rfl,rfl,rfl,rfl,rfl,rfl,rfl,rfl,rfl,rfl,rfl,rfl,rfl⟩,by rw[H46.out];rfl,HT.2⟩⟩
  have H46:=Z h46;have q46:(x.k==46)=false:=beq_eq_false_iff_ne.2 h46;clear h46 ht;by_cases hl:l=[]
  ·subst hl;have hn0:N 1=0:=hn;rw[hn0] at hv;rw[hv];have HV:=Z hv;clear hv hn hn0 hs;go_wp2_with first
    |(go_at_call 32;refine(bF fn b.fb b.gb b.xb b.lx rr _ x.pv 1000000 hpv (by decide) _ hcf hcg hcx HLB).mono ?_;rintro e w1 ⟨rfl,k1⟩;have K1:=Z k1;clear k1)
    |(go_at_call 36;refine(b9 x.k _).mono ?_;rintro e w2 ⟨⟨ds,rfl⟩,rfl⟩)
    |(go_at_call 35;refine(be (bS fn (x.pv.ln+1) (x.pv.cl+1)) _ _ _).mono ?_;rintro e w3 ⟨k,rfl,hk,hb,kk⟩;have H5:=Z (HS.err5 (K1.alloc _) hk hb kk);clear hk hb kk)
    |(refine appV 71 75 _ 1 16 underlying71 dm rfl (by decide) (by decide) (B:=C.bb+1) (xs:=X 2) (m:=N 2) (H5.1.sb.rows 2 (by decide)) H5.1.bbl hm2 (cs:=#[ce k]) rfl (by simp[ce,Value.oneCell']) (ql w3 _) (by rfl) (by rfl) ?_;intro v6 w6 hv6 hr6 f6 ho6;have H6:=Z (H5.1.errMore (e:=fu x.pv) (.inr rfl) H5.2 hr6 f6 ho6);clear hv6 hr6 f6 ho6)
   obtain⟨A3,h3⟩:=H6.pkgNone;refine Met.intro (hJ _ _ ?_);rw[i7 HI.out H3.out H46.out];exact⟨A3,_,_,_,_,h3,Fr18.mk rfl rfl ⟨⟨rfl,rfl,rfl,rfl,rfl,rfl,rfl,rfl,rfl,rfl,rfl,rfl,rfl,rfl⟩,rfl,HT.2⟩⟩
  ·obtain⟨l0,t0,rfl⟩:=last_snoc hl;obtain⟨s0,tl,rfl⟩:∃s0 tl,ss=s0++ [tl]:=last_snoc (fun e=>by subst e;simp at hss);have hl0:s0.map (·.toList)=l0∧tl.toList=t0:=by
    rw[List.map_append] at hss;have:=List.append_inj' hss rfl;exact⟨this.1,by simpa using this.2⟩
   have hgl:(l0++ [t0]).getLast?=some t0:=by simp
   have HGL:=Z hgl;have HL0:=Z hl0;have hnm:N 1=s0.length+1:=by rw[hn,←hl0.1];simp
   rw[hnm] at hv;rw[hv];have HV:=Z hv;have HNM:=Z hnm;obtain⟨hcl,hcap,hmax⟩:=last_cell (HS.pkgRow HV HNM HX) rfl;have hm1:s0.length+1≤1000000:=by omega
   have hml:(s0.length:Int)+1≤1000000:=by omega
   have q0:((s0.length:Int)+1==0)=false:=bf (by omega);clear hmax;clear hl hss hl0 hgl hn hnm hv hs;have HJ1:Hid (s0.length+1=(s0++ [tl]).length):=Z (by simp);have HJ2:Hid (((s0++ [tl]).map (·.toList)).flatten.length≤1000000000):=Z (by rw[List.map_append,HL0.1];simp only[List.map_cons,List.map_nil];rw[HL0.2];exact(HSM.pkg _ HI.out).2);have HJ3:Hid ((s0++ [tl]).length≤1000000):=Z (by simp;omega);by_cases h59:x.k=59
   ·have HK59:=Z h59;have q59:(x.k !=59)=false:=by rw[h59];rfl
    clear h59;by_cases hdot:t0=df
    ·have ep:tl=⟨#[46]⟩:=dw (by rw[HL0.2,hdot,qi];rfl);subst ep;have HD:=Z hdot;clear hdot;go_wp2_with first
      |(go_at_call 30;refine(eY fn b.fb (s.pl.ln+1) (s.pl.cl+1) _ hcf).mono ?_;rintro e w7 ⟨rfl,k7⟩;have K7:=Z k7;clear k7)
      |(go_at_call 35;refine(be (bS fn (s.pl.ln+1) (s.pl.cl+1)) _ _ _).mono ?_;rintro e w8 ⟨k8,rfl,hk,hb,kk⟩;have H8:=Z (HS.err5 K7 hk hb kk);clear hk hb kk)
      |(refine appV 71 75 _ 1 16 underlying71 dm rfl (by decide) (by decide) (B:=C.bb+1) (m:=N 2) (H8.1.sb.rows 2 (by decide)) H8.1.bbl hm2 (cs:=#[ce k8]) rfl (by simp[ce,Value.oneCell']) (ql w8 _) (by rfl) (by rfl) ?_;intro v9 w9 hv9 hr9 f9 ho9;have H9:=Z (H8.1.errMore (e:=fu s.pl) (.inr rfl) H8.2 hr9 f9 ho9);clear hv9 hr9 f9 ho9)
      |(go_at_call 37;refine(dZ (H9.pkgRow HV.out HNM.out HX.out) HJ1.out HJ2.out HJ3.out).mono ?_;rintro e wj ⟨⟨tj,rfl,htj⟩,kj⟩;have HTJ:=Z htj;obtain⟨t5,ht5,-⟩:=(H9.keep kj).fix.s;have cj:=ab ht5 0;have zj:=ae ht5 0;simp only[show ∀u v:Value,(#[u,v]:Array Value)[0]? =some u from fun _ _=>rfl] at cj;have HSJ:=Z (H9.keep kj);clear htj ht5 kj)
     obtain⟨A3,h3⟩:=(HSJ.named tj).pkgNone;have htj:tj.toList=(l0++ [t0]).flatten:=by rw[HTJ.out,List.map_append,HL0.1,←HL0.2];rfl
     simp only[htj] at h3;refine Met.intro (hJ _ _ ?_);rw[dU HI.out H3.out H46.out (by simp),if_pos HK59.out,if_pos (by rw[HGL.out,HD.out])];exact⟨A3,_,_,_,_,h3,Fr18.mk rfl rfl ⟨⟨rfl,rfl,rfl,rfl,rfl,rfl,rfl,rfl,rfl,rfl,rfl,rfl,rfl,rfl⟩,rfl,HT.2⟩⟩
    ·have hd:(tl.toList== [46])=false:=bf (by rw[HL0.2];exact hdot);have HD:=Z hdot;clear hdot;go_wp2_with first
      |(go_at_call 37;refine(dZ (HS.pkgRow HV.out HNM.out HX.out) HJ1.out HJ2.out HJ3.out).mono ?_;rintro e wj ⟨⟨tj,rfl,htj⟩,kj⟩;have HTJ:=Z htj;obtain⟨t5,ht5,-⟩:=(HS.keep kj).fix.s;have cj:=ab ht5 0;have zj:=ae ht5 0;simp only[show ∀u v:Value,(#[u,v]:Array Value)[0]? =some u from fun _ _=>rfl] at cj;have HSJ:=Z (HS.keep kj);clear htj ht5 kj)
     obtain⟨A3,h3⟩:=(HSJ.named tj).pkgNone;have htj:tj.toList=(l0++ [t0]).flatten:=by rw[HTJ.out,List.map_append,HL0.1,←HL0.2];rfl
     simp only[htj] at h3;refine Met.intro (hJ _ _ ?_);rw[dU HI.out H3.out H46.out (by simp),if_pos HK59.out,if_neg (fun e=>HD.out (Option.some.inj (HGL.symm.trans e)))];rw[List.append_nil];exact⟨A3,_,_,_,_,h3,Fr18.mk rfl rfl ⟨⟨rfl,rfl,rfl,rfl,rfl,rfl,rfl,rfl,rfl,rfl,rfl,rfl,rfl,rfl⟩,rfl,HT.2⟩⟩
   ·have HK59:=Z h59;have q59:(x.k !=59)=true:=by simp[h59]
    clear h59;go_upto_region 39 with first
     |(go_at_call 32;refine(bF fn b.fb b.gb b.xb b.lx rr _ x.pv 1000000 hpv (by decide) _ hcf hcg hcx HLB).mono ?_;rintro e w1 ⟨rfl,k1⟩;have K1:=Z k1;clear k1)
     |(go_at_call 36;refine(b9 x.k _).mono ?_;rintro e w2 ⟨⟨ds,rfl⟩,rfl⟩)
     |(go_at_call 35;refine(be (bS fn (x.pv.ln+1) (x.pv.cl+1)) _ _ _).mono ?_;rintro e w3 ⟨k,rfl,hk,hb,kk⟩;have H5:=Z (HS.err5 (K1.alloc _) hk hb kk);clear hk hb kk)
     |(refine appV 71 75 _ 1 16 underlying71 dm rfl (by decide) (by decide) (B:=C.bb+1) (xs:=X 2) (m:=N 2) (H5.1.sb.rows 2 (by decide)) H5.1.bbl hm2 (cs:=#[ce k]) rfl (by simp[ce,Value.oneCell']) (ql w3 _) (by rfl) (by rfl) ?_;intro v6 w6 hv6 hr6 f6 ho6;have H6:=Z (H5.1.errMore (e:=fu x.pv) (.inr rfl) H5.2 hr6 f6 ho6);clear hv6 hr6 f6 ho6)
    by_cases hdot:t0=df
    ·have ep:tl=⟨#[46]⟩:=dw (by rw[HL0.2,hdot,qi];rfl);subst ep;have HD:=Z hdot;clear hdot;obtain⟨hcf2,hcg2,hcx2,hlb2⟩:=H6.cells;have hcl2:=(last_cell (H6.pkgRow HV HNM HX) rfl).1;clear hcf hcg hcx hcl hlb2;go_wp2_with first
      |(go_at_call 30;refine(eY fn b.fb (s.pl.ln+1) (s.pl.cl+1) _ hcf2).mono ?_;rintro e w7 ⟨rfl,k7⟩;have K7:=Z k7;clear k7)
      |(go_at_call 35;refine(be (bS fn (s.pl.ln+1) (s.pl.cl+1)) _ _ _).mono ?_;rintro e w8 ⟨k8,rfl,hk,hb,kk⟩;have H8:=Z (H6.err5 K7 hk hb kk);clear hk hb kk)
      |(refine appV 71 75 _ 1 16 underlying71 dm rfl (by decide) (by decide) (B:=C.bb+1) (m:=(N 2+1)) (H8.1.sb.rows 2 (by decide)) H8.1.bbl hm2b (cs:=#[ce k8]) rfl (by simp[ce,Value.oneCell']) (ql w8 _) (by rfl) (by rfl) ?_;intro v9 w9 hv9 hr9 f9 ho9;have H9:=Z (H8.1.errMore (e:=fu s.pl) (.inr rfl) H8.2 hr9 f9 ho9);clear hv9 hr9 f9 ho9)
      |(go_at_call 37;refine(dZ (H9.pkgRow HV.out HNM.out HX.out) HJ1.out HJ2.out HJ3.out).mono ?_;rintro e wj ⟨⟨tj,rfl,htj⟩,kj⟩;have HTJ:=Z htj;obtain⟨t5,ht5,-⟩:=(H9.keep kj).fix.s;have cj:=ab ht5 0;have zj:=ae ht5 0;simp only[show ∀u v:Value,(#[u,v]:Array Value)[0]? =some u from fun _ _=>rfl] at cj;have HSJ:=Z (H9.keep kj);clear htj ht5 kj)
     obtain⟨A3,h3⟩:=(HSJ.named tj).pkgNone;have htj:tj.toList=(l0++ [t0]).flatten:=by rw[HTJ.out,List.map_append,HL0.1,←HL0.2];rfl
     simp only[htj] at h3;refine Met.intro (hJ _ _ ?_);rw[dU HI.out H3.out H46.out (by simp),if_neg HK59.out,if_pos (by rw[HGL.out,HD.out])];exact⟨A3,_,_,_,_,h3,Fr18.mk rfl rfl ⟨⟨rfl,rfl,rfl,rfl,rfl,rfl,rfl,rfl,rfl,rfl,rfl,rfl,rfl,rfl⟩,rfl,HT.2⟩⟩
    ·have hd:(tl.toList== [46])=false:=bf (by rw[HL0.2];exact hdot);have HD:=Z hdot;clear hdot;obtain⟨hcf2,hcg2,hcx2,hlb2⟩:=H6.cells;have hcl2:=(last_cell (H6.pkgRow HV HNM HX) rfl).1;clear hcf hcg hcx hcl hlb2;go_wp2_with first
      |(go_at_call 37;refine(dZ (H6.pkgRow HV.out HNM.out HX.out) HJ1.out HJ2.out HJ3.out).mono ?_;rintro e wj ⟨⟨tj,rfl,htj⟩,kj⟩;have HTJ:=Z htj;obtain⟨t5,ht5,-⟩:=(H6.keep kj).fix.s;have cj:=ab ht5 0;have zj:=ae ht5 0;simp only[show ∀u v:Value,(#[u,v]:Array Value)[0]? =some u from fun _ _=>rfl] at cj;have HSJ:=Z (H6.keep kj);clear htj ht5 kj)
     obtain⟨A3,h3⟩:=(HSJ.named tj).pkgNone;have htj:tj.toList=(l0++ [t0]).flatten:=by rw[HTJ.out,List.map_append,HL0.1,←HL0.2];rfl
     simp only[htj] at h3;refine Met.intro (hJ _ _ ?_);rw[dU HI.out H3.out H46.out (by simp),if_neg HK59.out,if_neg (fun e=>HD.out (Option.some.inj (HGL.symm.trans e)))];rw[List.append_nil];exact⟨A3,_,_,_,_,h3,Fr18.mk rfl rfl ⟨⟨rfl,rfl,rfl,rfl,rfl,rfl,rfl,rfl,rfl,rfl,rfl,rfl,rfl,rfl⟩,rfl,HT.2⟩⟩
end Go.Proofs.YtnclklfhjbkjhaaGreatDoor
namespace Go.Proofs.YtnclklfhjbkjhaaGreatDoor
open Tryz
open Go.RowKit Go.Lib
theorem d9{s:Sc}{x:Lx}(h:x.k=40∨x.k=123∨x.k=91∨x.k=60):bQ s x={s with stk:=dM x.k::s.stk}:=by unfold bQ;rw[if_pos h]
theorem ey{s:Sc}{x:Lx}(h:x.k=41∨x.k=125∨x.k=93∨x.k=62):bQ s x=if s.stk.head?=some x.k then{s with stk:=s.stk.tail} else s:=by unfold bQ;rw[if_neg (by omega),if_pos h]
theorem dl{s:Sc}{x:Lx}(h:x.k=65539):bQ s x=if s.ds∧s.stk=[] then(if txt x=dC then{s with imp:=some [],pub:=false,weak:=false} else if txt x=cT then{s with pkg:=some []} else s) else s:=by unfold bQ;rw[if_neg (by omega),if_neg (by omega),if_pos h]
theorem jB{s:Sc}{x:Lx}(h1:¬ (x.k=40∨x.k=123∨x.k=91∨x.k=60))(h2:¬ (x.k=41∨x.k=125∨x.k=93∨x.k=62))(h3:x.k≠65539):bQ s x=s:=by unfold bQ;rw[if_neg h1,if_neg h2,if_neg h3]
theorem vN(a b:ByteArray)(w:World):(binOp .eql 20 (.iface 9 (.string a)) (.iface 9 (.string b))).run prog w= .ok (.bool (a==b)) w:=by kernel_rfl
theorem jv{a b:ByteArray}(h:a.toList≠b.toList)(w:World):(binOp .eql 20 (.iface 9 (.string a)) (.iface 9 (.string b))).run prog w= .ok (.bool false) w:=by
 rw[vN];cases e:(a==b)
 ·rfl
 ·exact absurd (congrArg ByteArray.toList ((Go.MapKept.bytes_beq a b).1 e)) h
theorem kK{a b:ByteArray}(h:a.toList=b.toList)(w:World):(binOp .eql 20 (.iface 9 (.string a)) (.iface 9 (.string b))).run prog w= .ok (.bool true) w:=by
 rw[vN,(Go.MapKept.bytes_beq a b).2 (dw h)]
def cImp:ByteArray:=⟨#[105,109,112,111,114,116]⟩
def cPkg:ByteArray:=⟨#[112,97,99,107,97,103,101]⟩
theorem cImp_eq:cImp.toList=dC:=by rw[qi];rfl
theorem cPkg_eq:cPkg.toList=cT:=by rw[qi];rfl
section
variable {C:RC} {rr T:Nat} {R:List Int} {p pv:Ps} {fn:ByteArray} {b:Bl} {s:Sc} {A P:Nat→Prop} {V:Nat→Value} {N:Nat→Nat} {X:Nat→List Value} {w:World}
theorem ScS.stkNil(h:ScS C rr T R p pv fn b s A P V N X w)(hs:s.stk=[]):∃a c,V 3= .slice a 0 c:=by
 have hr:=(h.sb.rows 3 (by decide)).2;have hn:=h.rel.stk.1;rw[hs] at hn;rw[hn] at hr;rcases hr with⟨h1,-⟩|⟨g,c,cur,h1,-⟩
 ·exact⟨_,_,h1⟩
 ·exact⟨_,_,h1⟩
end
theorem rB:xW (ve 54) bQ:=by
 intro C rr T R p fn b s x a w J K Q h hsm htx hpv hpl htk hJ hK;obtain⟨A,P,V,N,X,hs,u,⟨hu,ht⟩,rfl⟩:=h;have HU:=Z hu;have HT:=Z ht;have HS:=Z hs;have hm3:N 3≤1000000:=by
  have:=hs.rel.stk.1;have:=hsm.stk;omega
 unfold gP;rw[hu.u4,hu.u6,hu.u7,hu.u8,hu.u9,hu.u10,hu.u11,hu.u12,hu.u13,hu.u14,hu.u15,hu.u16,hu.u17,hu.u18,ht.1];clear hu hsm hpv hpl
 conv=>arg 2;whnf
 by_cases ho:x.k=40∨x.k=123∨x.k=91∨x.k=60
 ·have HO:=Z ho;rcases ho with h1|h1|h1|h1
  ·rw[h1];have H1:=Z h1;clear hs ht h1;go_wp2_with first
    |(go_at_call 38;refine(fD 40 _).mono ?_;rintro e w2 ⟨rfl,rfl⟩)
    |(refine appV 90 101 _ 1 8 underlying90 iE rfl (by decide) (by decide) (B:=C.bb+1) (m:=N 3) ((HS.keep ((Fr.refl _).alloc (.cells #[.int .i64 41] 101))).sb.rows 3 (by decide)) (HS.keep ((Fr.refl _).alloc (.cells #[.int .i64 41] 101))).bbl hm3 (cs:=#[.int .i64 41]) rfl (by simp[Value.oneCell']) (ql _ _) (by rfl) (by rfl) ?_;intro v6 w6 hv6 hr6 f6 ho6;have H6:=Z ((HS.keep ((Fr.refl _).alloc (.cells #[.int .i64 41] 101))).open_ (k:=41) hr6 f6 ho6);clear hv6 hr6 f6 ho6)
   refine Met.intro (hJ _ _ ?_);rw[d9 HO.out,show dM x.k=41 from by rw[H1.out];rfl];exact⟨_,P,_,_,_,H6.out,Fr18.mk rfl rfl ⟨⟨rfl,rfl,rfl,rfl,rfl,rfl,rfl,rfl,rfl,rfl,rfl,rfl,rfl,rfl⟩,by rw[H1.out];rfl,HT.2⟩⟩
  ·rw[h1];have H1:=Z h1;clear hs ht h1;go_wp2_with first
    |(go_at_call 38;refine(fD 123 _).mono ?_;rintro e w2 ⟨rfl,rfl⟩)
    |(refine appV 90 101 _ 1 8 underlying90 iE rfl (by decide) (by decide) (B:=C.bb+1) (m:=N 3) ((HS.keep ((Fr.refl _).alloc (.cells #[.int .i64 125] 101))).sb.rows 3 (by decide)) (HS.keep ((Fr.refl _).alloc (.cells #[.int .i64 125] 101))).bbl hm3 (cs:=#[.int .i64 125]) rfl (by simp[Value.oneCell']) (ql _ _) (by rfl) (by rfl) ?_;intro v6 w6 hv6 hr6 f6 ho6;have H6:=Z ((HS.keep ((Fr.refl _).alloc (.cells #[.int .i64 125] 101))).open_ (k:=125) hr6 f6 ho6);clear hv6 hr6 f6 ho6)
   refine Met.intro (hJ _ _ ?_);rw[d9 HO.out,show dM x.k=125 from by rw[H1.out];rfl];exact⟨_,P,_,_,_,H6.out,Fr18.mk rfl rfl ⟨⟨rfl,rfl,rfl,rfl,rfl,rfl,rfl,rfl,rfl,rfl,rfl,rfl,rfl,rfl⟩,by rw[H1.out];rfl,HT.2⟩⟩
  ·rw[h1];have H1:=Z h1;clear hs ht h1;go_wp2_with first
    |(go_at_call 38;refine(fD 91 _).mono ?_;rintro e w2 ⟨rfl,rfl⟩)
    |(refine appV 90 101 _ 1 8 underlying90 iE rfl (by decide) (by decide) (B:=C.bb+1) (m:=N 3) ((HS.keep ((Fr.refl _).alloc (.cells #[.int .i64 93] 101))).sb.rows 3 (by decide)) (HS.keep ((Fr.refl _).alloc (.cells #[.int .i64 93] 101))).bbl hm3 (cs:=#[.int .i64 93]) rfl (by simp[Value.oneCell']) (ql _ _) (by rfl) (by rfl) ?_;intro v6 w6 hv6 hr6 f6 ho6;have H6:=Z ((HS.keep ((Fr.refl _).alloc (.cells #[.int .i64 93] 101))).open_ (k:=93) hr6 f6 ho6);clear hv6 hr6 f6 ho6)
   refine Met.intro (hJ _ _ ?_);rw[d9 HO.out,show dM x.k=93 from by rw[H1.out];rfl];exact⟨_,P,_,_,_,H6.out,Fr18.mk rfl rfl ⟨⟨rfl,rfl,rfl,rfl,rfl,rfl,rfl,rfl,rfl,rfl,rfl,rfl,rfl,rfl⟩,by rw[H1.out];rfl,HT.2⟩⟩
  ·rw[h1];have H1:=Z h1;clear hs ht h1;go_wp2_with first
    |(go_at_call 38;refine(fD 60 _).mono ?_;rintro e w2 ⟨rfl,rfl⟩)
    |(refine appV 90 101 _ 1 8 underlying90 iE rfl (by decide) (by decide) (B:=C.bb+1) (m:=N 3) ((HS.keep ((Fr.refl _).alloc (.cells #[.int .i64 62] 101))).sb.rows 3 (by decide)) (HS.keep ((Fr.refl _).alloc (.cells #[.int .i64 62] 101))).bbl hm3 (cs:=#[.int .i64 62]) rfl (by simp[Value.oneCell']) (ql _ _) (by rfl) (by rfl) ?_;intro v6 w6 hv6 hr6 f6 ho6;have H6:=Z ((HS.keep ((Fr.refl _).alloc (.cells #[.int .i64 62] 101))).open_ (k:=62) hr6 f6 ho6);clear hv6 hr6 f6 ho6)
   refine Met.intro (hJ _ _ ?_);rw[d9 HO.out,show dM x.k=62 from by rw[H1.out];rfl];exact⟨_,P,_,_,_,H6.out,Fr18.mk rfl rfl ⟨⟨rfl,rfl,rfl,rfl,rfl,rfl,rfl,rfl,rfl,rfl,rfl,rfl,rfl,rfl⟩,by rw[H1.out];rfl,HT.2⟩⟩
 by_cases hc:x.k=41∨x.k=125∨x.k=93∨x.k=62
 ·have HC:=Z hc;have HO:=Z ho;clear ho;by_cases hst:s.stk=[]
  ·obtain⟨a0,c0,hv⟩:=hs.stkNil hst;rw[hv];have HV:=Z hv;have HST:=Z hst;clear hv hst hs;rcases hc with h1|h1|h1|h1
   all_goals
    rw[h1];have H1:=Z h1;clear h1 ht;go_wp2_with fail;refine Met.intro (hJ _ _ ?_);rw[ey HC.out,if_neg (by rw[HST.out];simp)];exact⟨A,P,V,N,X,HS.out,Fr18.mk rfl rfl ⟨⟨rfl,rfl,rfl,rfl,rfl,rfl,rfl,HV.symm,rfl,rfl,rfl,rfl,rfl,rfl⟩,by rw[H1.out];rfl,HT.2⟩⟩
  ·obtain⟨k0,l,hl⟩:∃k0 l,s.stk=k0::l:=by
    cases e:s.stk with
    |nil=>exact absurd e hst
    |cons a r=>exact⟨a,r,rfl⟩
   obtain⟨g,cap,hv,hcap,hmax,hcell,A',hcl⟩:=hs.close_ hl;rw[hv];have hlm:l.length+1≤1000000:=by
    have:=hs.rel.stk.1;rw[hl,List.length_cons] at this;omega
   have hml:(l.length:Int)+1≤1000000:=by omega
   have hcz:l.length≤cap:=by omega
   have HV:=Z hv;have HL:=Z hl;have HCL:=Z hcl;clear hv hst hs hl hcl hmax;by_cases hk:k0=x.k
   ·have HK:=Z hk;rw[hk] at hcell;clear hk;rcases hc with h1|h1|h1|h1
    all_goals
     rw[h1];rw[h1] at hcell;have H1:=Z h1;clear h1 ht;go_wp2_with fail;refine Met.intro (hJ _ _ ?_);rw[ey HC.out,if_pos (by rw[HL.out,HK.out];rfl),HL.out];exact⟨_,P,_,_,_,HCL.out,Fr18.mk rfl rfl ⟨⟨rfl,rfl,rfl,rfl,rfl,rfl,rfl,rfl,rfl,rfl,rfl,rfl,rfl,rfl⟩,by rw[H1.out];rfl,HT.2⟩⟩
   ·have HK:=Z hk;rcases hc with h1|h1|h1|h1
    all_goals
     rw[h1];have qk:(k0==x.k)=false:=beq_eq_false_iff_ne.2 hk;rw[h1] at qk;have H1:=Z h1;clear h1 ht hk;go_wp2_with fail;refine Met.intro (hJ _ _ ?_);rw[ey HC.out,if_neg (by rw[HL.out];exact fun e=>HK.out (Option.some.inj e))];exact⟨A,P,V,N,X,HS.out,Fr18.mk rfl rfl ⟨⟨rfl,rfl,rfl,rfl,rfl,rfl,rfl,HV.symm,rfl,rfl,rfl,rfl,rfl,rfl⟩,by rw[H1.out];rfl,HT.2⟩⟩
 have HC:=Z hc;have HO:=Z ho;by_cases h3:x.k=65539
 ·clear ho hc;obtain⟨t,hxt⟩:∃t,x.t=some t:=by
   cases e:x.t with
   |none=>exact absurd e (htk (.inr h3))
   |some t=>exact⟨t,rfl⟩
  have ht2:=ht.2;rw[hxt] at ht2;obtain⟨tt,hut,htt⟩:=ht2;have HTX:Hid (txt x=tt.toList):=Z (by unfold txt;rw[hxt,htt];rfl);rw[h3,hut];have H3:=Z h3;have HUT:=Z hut;clear ht hut hxt htt h3;cases hds:s.ds
  ·have HDS:=Z hds;clear hds hs;go_wp2_with fail;refine Met.intro (hJ _ _ ?_);rw[dl H3.out,if_neg (by rw[HDS.out];simp)];exact⟨A,P,V,N,X,HS.out,Fr18.mk rfl rfl ⟨⟨rfl,rfl,rfl,rfl,rfl,rfl,rfl,rfl,by rw[HDS.out];rfl,rfl,rfl,rfl,rfl,rfl⟩,by rw[H3.out];rfl,HUT.out▸HT.2⟩⟩
  have HDS:=Z hds;clear hds;by_cases hst:s.stk=[]
  ·obtain⟨a0,c0,hv⟩:=hs.stkNil hst;rw[hv];have HV:=Z hv;have HST:=Z hst;clear hv hst hs;by_cases hi:tt.toList=dC
   ·have e1:∀w,(binOp .eql 20 (.iface 9 (.string tt)) (.iface 9 (.string ⟨#[105,109,112,111,114,116]⟩))).run prog w= .ok (.bool true) w:=kK (b:=cImp) (hi.trans cImp_eq.symm);have HI:=Z hi;clear hi;go_wp2_with fail;obtain⟨A',h2⟩:=HS.impNew;refine Met.intro (hJ _ _ ?_);rw[dl H3.out,if_pos ⟨HDS.out,HST.out⟩,if_pos (by rw[HTX.out,HI.out])];exact⟨_,P,_,_,_,h2.flags false false,Fr18.mk rfl rfl ⟨⟨rfl,rfl,rfl,rfl,rfl,rfl,rfl,HV.symm,by rw[HDS.out];rfl,rfl,rfl,rfl,rfl,rfl⟩,by rw[H3.out];rfl,HUT.out▸HT.2⟩⟩
   ·by_cases hp:tt.toList=cT
    ·have e1:∀w,(binOp .eql 20 (.iface 9 (.string tt)) (.iface 9 (.string ⟨#[105,109,112,111,114,116]⟩))).run prog w= .ok (.bool false) w:=jv (b:=cImp) (by rw[cImp_eq];exact hi);have e2:∀w,(binOp .eql 20 (.iface 9 (.string tt)) (.iface 9 (.string ⟨#[112,97,99,107,97,103,101]⟩))).run prog w= .ok (.bool true) w:=kK (b:=cPkg) (hp.trans cPkg_eq.symm);have HI:=Z hi;have HP:=Z hp;clear hi hp;go_wp2_with fail;obtain⟨A',h2⟩:=HS.pkgNew;refine Met.intro (hJ _ _ ?_);rw[dl H3.out,if_pos ⟨HDS.out,HST.out⟩,if_neg (by rw[HTX.out];exact HI.out),if_pos (by rw[HTX.out,HP.out])];exact⟨_,P,_,_,_,h2,Fr18.mk rfl rfl ⟨⟨rfl,rfl,rfl,rfl,rfl,rfl,rfl,HV.symm,by rw[HDS.out];rfl,rfl,rfl,rfl,rfl,rfl⟩,by rw[H3.out];rfl,HUT.out▸HT.2⟩⟩
    ·have e1:∀w,(binOp .eql 20 (.iface 9 (.string tt)) (.iface 9 (.string ⟨#[105,109,112,111,114,116]⟩))).run prog w= .ok (.bool false) w:=jv (b:=cImp) (by rw[cImp_eq];exact hi);have e2:∀w,(binOp .eql 20 (.iface 9 (.string tt)) (.iface 9 (.string ⟨#[112,97,99,107,97,103,101]⟩))).run prog w= .ok (.bool false) w:=jv (b:=cPkg) (by rw[cPkg_eq];exact hp);have HI:=Z hi;have HP:=Z hp;clear hi hp;go_wp2_with fail;refine Met.intro (hJ _ _ ?_);rw[dl H3.out,if_pos ⟨HDS.out,HST.out⟩,if_neg (by rw[HTX.out];exact HI.out),if_neg (by rw[HTX.out];exact HP.out)];exact⟨A,P,V,N,X,HS.out,Fr18.mk rfl rfl ⟨⟨rfl,rfl,rfl,rfl,rfl,rfl,rfl,HV.symm,by rw[HDS.out];rfl,rfl,rfl,rfl,rfl,rfl⟩,by rw[H3.out];rfl,HUT.out▸HT.2⟩⟩
  ·obtain⟨k0,l,hl⟩:∃k0 l,s.stk=k0::l:=by
    cases e:s.stk with
    |nil=>exact absurd e hst
    |cons a r=>exact⟨a,r,rfl⟩
   obtain⟨g,cap,hv,-⟩:=hs.close_ hl;rw[hv];have q0:((l.length:Int)+1==0)=false:=bf (by omega);have HV:=Z hv;have HST:=Z hst;clear hv hst hs hl;go_wp2_with fail;refine Met.intro (hJ _ _ ?_);rw[dl H3.out,if_neg (fun e=>HST.out e.2)];exact⟨A,P,V,N,X,HS.out,Fr18.mk rfl rfl ⟨⟨rfl,rfl,rfl,rfl,rfl,rfl,rfl,HV.symm,by rw[HDS.out];rfl,rfl,rfl,rfl,rfl,rfl⟩,by rw[H3.out];rfl,HUT.out▸HT.2⟩⟩
 ·have H3:=Z h3;have q40:(x.k==40)=false:=bf (by omega);have q123:(x.k==123)=false:=bf (by omega);have q91:(x.k==91)=false:=bf (by omega);have q60:(x.k==60)=false:=bf (by omega);have q41:(x.k==41)=false:=bf (by omega);have q125:(x.k==125)=false:=bf (by omega);have q93:(x.k==93)=false:=bf (by omega);have q62:(x.k==62)=false:=bf (by omega);have q65539:(x.k==65539)=false:=bf (by omega);clear ho hc h3 ht hs;go_wp2_with fail;refine Met.intro (hJ _ _ ?_);rw[jB HO.out HC.out H3.out];exact⟨A,P,V,N,X,HS,Fr18.mk rfl rfl ⟨⟨rfl,rfl,rfl,rfl,rfl,rfl,rfl,rfl,rfl,rfl,rfl,rfl,rfl,rfl⟩,rfl,HT.2⟩⟩
end Go.Proofs.YtnclklfhjbkjhaaGreatDoor
