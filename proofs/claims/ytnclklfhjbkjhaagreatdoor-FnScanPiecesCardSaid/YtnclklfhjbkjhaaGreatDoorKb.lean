/- Part of the proof: K6 K7 K8 K16 K18 K19. -/
import Derived.Test.YtnclklfhjbkjhaaGreatDoorKa
import Derived.Laws.RangeString
import Derived.Laws.MakeOwn
import Derived.Laws.OwnMore
set_option maxRecDepth 1000000
set_option maxHeartbeats 40000000
set_option linter.unusedSimpArgs false
namespace Go.Proofs.YtnclklfhjbkjhaaGreatDoor
open Tryz
open Go.RowKit Go.Lib
theorem nj{c:Int}(h:(bB c||aV c)=true):c=95∨(97≤c∧c≤122)∨(65≤c∧c≤90)∨(48≤c∧c≤57):=by
 simp only[bB,aV,Bool.or_eq_true,Bool.and_eq_true,decide_eq_true_eq,beq_iff_eq] at h;omega
theorem qJ{c:Int}(h:(bB c||aV c)=false):c<48∨(57<c∧c<65)∨(90<c∧c<95)∨c=96∨122<c:=by
 have h':¬ (bB c||aV c)=true:=by rw[h];decide
 simp only[bB,aV,Bool.or_eq_true,Bool.and_eq_true,decide_eq_true_eq,beq_iff_eq] at h';omega
def vS(C:RC)(lx rr:Nat)(A:Nat→Prop)(T:Nat)(x:Rd)(pv:Ps)(w:World)(e:Ending)(w':World):Prop:=
 ∃t:ByteArray,e= .returned (.string t)∧t.toList=aO x.out∧LxSt C lx rr A false T 0 x.rest x.ps pv w'∧Fr (LxF C lx A) w w'
theorem dH(C:RC)(lx rr T:Nat)(A:Nat→Prop)(ok:Bool)(R:List Int)(p pv:Ps)(av:Value)(xs:List Int)(w:World)(h:AccSt C lx rr A ok T 0 R p pv av xs w)(hx:0<xs.length):
  Calls prog 67 #[.pointer (some ⟨lx,0,none⟩),av] w (vS C lx rr A T (fP R xs p) pv w):=by
 have HS:=Z h;clear h;go_enter func67,ntmps67;go_upto_block 0 with fail;go_cut [5] (fun s5 wr=>∃ (av':Value) (xs' R':List Int) (p':Ps),av'=s5∧Hid (0<xs'.length∧fP R xs p=⟨xs',p',R'⟩∧Fr (LxF C lx A) w wr∧AccSt C lx rr A false T 0 R' p' pv av' xs' wr))
 case first=>
  go_wp2_with fail;go_loopg [5] R.length (fun k s5 wr=>∃ (av':Value) (xs' R':List Int) (p':Ps) (ok':Bool),av'=s5∧k=R'.length∧Hid (0<xs'.length)∧Hid (fP R xs p=fP R' xs' p')∧Hid (Fr (LxF C lx A) w wr)∧Hid (AccSt C lx rr A ok' T 0 R' p' pv av' xs' wr))
  case atStart=>exact⟨av,xs,R,p,ok,rfl,rfl,Z hx,Z rfl,Z (Fr.refl _),HS⟩
  case round=>
   obtain⟨av',xs',R',p',ok',rfl,rfl,HX,HE,HF,HL⟩:=hrel;have c0:=HL.st.cell;go_wp2_with first
    |(go_at_call 62;refine(pO HL).mono ?_;rintro e w2 ⟨f2,(⟨hR,h2,b,rfl⟩|⟨c,R2,hR,h2,rfl⟩)⟩<;>refine Hid.out ?_)
   ·refine Z ?_;have HR:=Z hR;clear hR;go_wp2_with fail;go_meet;refine⟨_,xs',[],p',rfl,Z ⟨HX,?_,HF.trans f2,h2⟩⟩;rw[HE.out,HR.out];rfl
   ·refine Z ?_;have HR:=Z hR;have H2:=Z h2;have HF2:=Z (HF.trans f2);have c2:=h2.st.cell;clear hR h2 f2;obtain⟨b,hb⟩:∃b,b=(bB c||aV c):=⟨_,rfl⟩;have HB:=Z hb;clear hb;go_upto_region 4 with fail;go_cut [6,44] (fun s6 s44 wx=>s6= .int .i32 c∧s44= .bool (!b)∧wx=w2)
    case first=>
     have hb:=HB.out;cases b
     ·rcases qJ hb.symm with h|⟨h,h'⟩|⟨h,h'⟩|h|h
      all_goals
       have q95:(c !=95)=true:=by simp;omega
       clear hb;go_wp2_with fail;go_meet;exact⟨rfl,by first|rfl|(simp;omega),rfl⟩
     ·rcases nj hb.symm with h|⟨h,h'⟩|⟨h,h'⟩|⟨h,h'⟩
      ·have q95:(c !=95)=false:=by simp[h]
       clear hb;go_wp2_with fail;go_meet;exact⟨rfl,by first|rfl|(simp;omega),rfl⟩
      all_goals
       have q95:(c !=95)=true:=by simp;omega
       clear hb;go_wp2_with fail;go_meet;exact⟨rfl,by first|rfl|(simp;omega),rfl⟩
    case rest=>
     obtain⟨rfl,rfl,ew⟩:=hcut;subst ew;cases b
     ·go_wp2_with (go_at_call 66;refine(gU c H2).mono ?_;rintro e w3 ⟨rfl,h3,f3⟩);go_meet;refine⟨_,xs',c::R2,p',rfl,Z ⟨HX,?_,HF2.trans f3,⟨h3.al,h3.st.any,h3.row,h3.na,h3.asc,h3.len⟩⟩⟩;rw[HE.out,HR.out];unfold fP;rw[if_neg (by rw[←HB.out];decide)]
     ·have hbw:C.bb+1≤wc.heap.size:=by
       have:=H2.st.ru.bbl;omega
      have hcr:0≤c∧c<128:=by
       have:=nj HB.symm;omega
      have HCR:=Z hcr;have hxl:xs'.length≤1000000:=by
       have:=H2.len;have:=H2.st.hT;omega
      have hxl2:=H2.len;have HXL:=Z hxl2;clear hcr hxl2;go_wp2_with first
       |(go_at_call 64;refine(oS c H2).mono ?_;rintro e w3 ⟨rfl,h3,hrow3,f3⟩;have H3:=Z h3;have HROW:=Z hrow3;have HF3:=Z (HF2.trans f3);have hbw3:=Nat.le_trans hbw f3.size;clear h3 hrow3 f3)
       |(refine appR (B:=C.bb+1) (v:=av') (xs:=xs') (c:=c) HROW.out hbw3 hxl (by simp) (by decide) (by simp) (by simp) ?_;intro v4 w4 hrow4 hfr4 hos4;refine Hid.out ?_)
      refine Z ?_;have HP:=Z (mj H2.al H2.na H2.asc HCR HXL H3 HROW hrow4 hfr4 hos4);clear hrow4 hfr4 hos4;go_wp2_with fail;go_roundg R2.length
      case measure=>rw[HR.out];simp
      case rel=>
       refine⟨v4,xs'++ [c],R2,aC p' c,true,rfl,rfl,Z (by simp),Z ?_,Z (HF3.trans HP.2),Z HP.1⟩;rw[HE.out,HR.out]
       conv=>lhs;unfold fP
       rw[if_pos HB.symm]
 case rest=>
  obtain⟨av',xs',R',p',rfl,HH⟩:=hcut;obtain⟨hx',he,hf,ha⟩:=HH.out;obtain⟨t,ht1,ht2⟩:=mE ha.row ha.asc hx';have HT:=Z ht2;clear hx' he hf ha ht2;go_wp2_with fail;refine qh (results_tmp results67 _ _ _) rfl ⟨t,rfl,?_,?_,HH.2.2.1⟩
  ·rw[HT.out,HH.2.1]
  ·rw[HH.2.1];exact HH.2.2.2.any
def wY(c:Int):Bool:=c==46||bB c||aV c||c==45||c==43
theorem gL(c:Int)(r acc:List Int)(e:Bool)(p:Ps):bV (c::r) acc e p=if((c==45||c==43) && !e)=true then⟨acc,p,c::r⟩ else if wY c=true then bV r (acc++ [c]) (c==101||c==69) (aC p c) else⟨acc,p,c::r⟩:=rfl
theorem kB{c:Int}(h:wY c=true):c=95∨c=46∨c=45∨c=43∨(97≤c∧c≤122)∨(65≤c∧c≤90)∨(48≤c∧c≤57):=by
 simp only[wY,bB,aV,Bool.or_eq_true,Bool.and_eq_true,decide_eq_true_eq,beq_iff_eq] at h;omega
theorem od{c:Int}(h:wY c=false):c<43∨c=44∨c=47∨(57<c∧c<65)∨(90<c∧c<95)∨c=96∨122<c:=by
 have h':¬wY c=true:=by rw[h];decide
 simp only[wY,bB,aV,Bool.or_eq_true,Bool.and_eq_true,decide_eq_true_eq,beq_iff_eq] at h';omega
theorem hZ(C:RC)(lx rr T:Nat)(A:Nat→Prop)(ok:Bool)(R:List Int)(p pv:Ps)(av:Value)(xs:List Int)(w:World)(h:AccSt C lx rr A ok T 0 R p pv av xs w)(hx:0<xs.length):
  Calls prog 65 #[.pointer (some ⟨lx,0,none⟩),av] w (vS C lx rr A T (bV R xs false p) pv w):=by
 have HS:=Z h;clear h;go_enter func65,ntmps65;go_upto_block 0 with fail;go_cut [5] (fun s5 wr=>∃ (av':Value) (xs' R':List Int) (p':Ps),av'=s5∧Hid (0<xs'.length∧bV R xs false p=⟨xs',p',R'⟩∧Fr (LxF C lx A) w wr∧AccSt C lx rr A false T 0 R' p' pv av' xs' wr))
 case first=>
  go_wp2_with fail;go_loopg [5,6] R.length (fun k s5 s6 wr=>∃ (av':Value) (xs' R':List Int) (p':Ps) (ok' al:Bool),av'=s5∧s6= .bool al∧k=R'.length∧Hid (0<xs'.length)∧Hid (bV R xs false p=bV R' xs' al p')∧Hid (Fr (LxF C lx A) w wr)∧Hid (AccSt C lx rr A ok' T 0 R' p' pv av' xs' wr))
  case atStart=>exact⟨av,xs,R,p,ok,false,rfl,rfl,rfl,Z hx,Z rfl,Z (Fr.refl _),HS⟩
  case round=>
   obtain⟨av',xs',R',p',ok',al,rfl,rfl,rfl,HX,HE,HF,HL⟩:=hrel;have c0:=HL.st.cell;go_wp2_with first
    |(go_at_call 62;refine(pO HL).mono ?_;rintro e w2 ⟨f2,(⟨hR,h2,b,rfl⟩|⟨c,R2,hR,h2,rfl⟩)⟩<;>refine Hid.out ?_)
   ·refine Z ?_;have HR:=Z hR;clear hR;go_wp2_with fail;go_meet;refine⟨_,xs',[],p',rfl,Z ⟨HX,?_,HF.trans f2,h2⟩⟩;rw[HE.out,HR.out];rfl
   ·refine Z ?_;have HR:=Z hR;have H2:=Z h2;have HF2:=Z (HF.trans f2);have c2:=h2.st.cell;clear hR h2 f2;obtain⟨b1,hb1⟩:∃b,b=((c==45||c==43) && !al):=⟨_,rfl⟩;have HB1:=Z hb1;clear hb1;obtain⟨b,hb⟩:∃b,b=wY c:=⟨_,rfl⟩;have HB:=Z hb;clear hb;go_upto_region 5 with fail;go_cut [5,6,7,29] (fun s5 s6 s7 s29 wx=>av'=s5∧s6= .bool al∧s7= .int .i32 c∧s29= .bool b1∧wx=w2)
    case first=>
     by_cases h45:c=45
     ·have hb:=HB1.out;subst h45;cases al
      ·have hb2:b1=true:=hb;subst hb2;clear hb;go_wp2_with fail;go_meet;exact⟨rfl,rfl,rfl,rfl,rfl⟩
      ·have hb2:b1=false:=hb;subst hb2;clear hb;go_wp2_with fail;go_meet;exact⟨rfl,rfl,rfl,rfl,rfl⟩
     ·have q45:(c==45)=false:=beq_eq_false_iff_ne.2 h45;by_cases h43:c=43
      ·have hb:=HB1.out;subst h43;clear q45 h45;cases al
       ·have hb2:b1=true:=hb;subst hb2;clear hb;go_wp2_with fail;go_meet;exact⟨rfl,rfl,rfl,rfl,rfl⟩
       ·have hb2:b1=false:=hb;subst hb2;clear hb;go_wp2_with fail;go_meet;exact⟨rfl,rfl,rfl,rfl,rfl⟩
      ·have q43:(c==43)=false:=beq_eq_false_iff_ne.2 h43;have hb2:b1=false:=by rw[HB1.out,q45,q43];rfl
       subst hb2;clear h45 h43;go_wp2_with fail;go_meet;exact⟨rfl,rfl,rfl,rfl,rfl⟩
    case rest=>
     obtain⟨rfl,rfl,rfl,rfl,ew⟩:=hcut;subst ew;cases b1
     case true=>
      go_wp2_with (go_at_call 66;refine(gU c H2).mono ?_;rintro e w3 ⟨rfl,h3,f3⟩);go_meet;refine⟨_,xs',c::R2,p',rfl,Z ⟨HX,?_,HF2.trans f3,⟨h3.al,h3.st.any,h3.row,h3.na,h3.asc,h3.len⟩⟩⟩;rw[HE.out,HR.out,gL,if_pos HB1.symm]
     case false=>
      go_upto_region 8 with fail;go_cut [5,7,73] (fun s5 s7 s73 wx=>av'=s5∧s7= .int .i32 c∧s73= .bool (!b)∧wx=wc)
      case first=>
       have hb:=HB.out;cases b
       ·rcases od hb.symm with h|h|h|⟨h,h'⟩|⟨h,h'⟩|h|h
        all_goals
         have q46:(c !=46)=true:=by simp;omega
         have q95:(c !=95)=true:=by simp;omega
         have q45:(c !=45)=true:=by simp;omega
         have q43:(c !=43)=true:=by simp;omega
         clear hb;go_wp2_with fail;go_meet;exact⟨rfl,rfl,by first|rfl|(simp;omega),rfl⟩
       ·rcases kB hb.symm with h|h|h|h|⟨h,h'⟩|⟨h,h'⟩|⟨h,h'⟩
        ·subst h;clear hb;go_wp2_with fail;go_meet;exact⟨rfl,rfl,by first|rfl|(simp;omega),rfl⟩
        ·subst h;clear hb;go_wp2_with fail;go_meet;exact⟨rfl,rfl,by first|rfl|(simp;omega),rfl⟩
        ·subst h;clear hb;go_wp2_with fail;go_meet;exact⟨rfl,rfl,by first|rfl|(simp;omega),rfl⟩
        ·subst h;clear hb;go_wp2_with fail;go_meet;exact⟨rfl,rfl,by first|rfl|(simp;omega),rfl⟩
        all_goals
         have q46:(c !=46)=true:=by simp;omega
         have q95:(c !=95)=true∨(c !=95)=false:=by cases(c !=95)<;>simp
         clear hb q95;go_wp2_with fail;go_meet;exact⟨rfl,rfl,by first|rfl|(simp;omega),rfl⟩
      case rest=>
       obtain⟨hav,rfl,rfl,ew⟩:=hcut;subst hav;subst ew;cases b
       ·go_wp2_with (go_at_call 66;refine(gU c H2).mono ?_;rintro e w3 ⟨rfl,h3,f3⟩);go_meet;refine⟨_,xs',c::R2,p',rfl,Z ⟨HX,?_,HF2.trans f3,⟨h3.al,h3.st.any,h3.row,h3.na,h3.asc,h3.len⟩⟩⟩;rw[HE.out,HR.out,gL,if_neg (by rw[←HB1.out];decide),if_neg (by rw[←HB.out];decide)]
       ·have hbw:C.bb+1≤wc.heap.size:=by
         have:=H2.st.ru.bbl;omega
        have hcr:0≤c∧c<128:=by
         have:=kB HB.symm;omega
        have HCR:=Z hcr;have hxl:xs'.length≤1000000:=by
         have:=H2.len;have:=H2.st.hT;omega
        have HXL:=Z H2.len;clear hcr;obtain⟨b3,hb3⟩:∃b,b=(c==101||c==69):=⟨_,rfl⟩;have HB3:=Z hb3;have hq:∀v4 w4,Hid (AccSt C lx rr A true T 0 R2 (aC p' c) pv v4 (xs'++ [c]) w4∧Fr (LxF C lx A) w w4)→(∃ (av'':Value) (xs'' R'':List Int) (p'':Ps) (ok'' al'':Bool),av''=v4∧Value.bool b3= .bool al''∧R2.length=R''.length∧Hid (0<xs''.length)∧Hid (bV R xs false p=bV R'' xs'' al'' p'')∧Hid (Fr (LxF C lx A) w w4)∧Hid (AccSt C lx rr A ok'' T 0 R'' p'' pv av'' xs'' w4)):=fun v4 w4 hh=>by
         refine⟨v4,xs'++ [c],R2,aC p' c,true,b3,rfl,rfl,rfl,Z (by simp),Z ?_,Z hh.out.2,Z hh.out.1⟩;rw[HE.out,HR.out,gL,if_neg (by rw[←HB1.out];decide),if_pos HB.symm,←HB3.out]
        have HQ:=Z hq;clear hq hb3;by_cases h101:c=101
        ·have q101:(c==101)=true:=beq_iff_eq.2 h101;have hb3:b3=true:=by rw[HB3.out,q101];rfl
         subst hb3;clear h101;go_wp2_with first
          |(go_at_call 64;refine(oS c H2).mono ?_;rintro e w3 ⟨rfl,h3,hrow3,f3⟩;have H3:=Z h3;have HROW:=Z hrow3;have HF3:=Z (HF2.trans f3);have hbw3:=Nat.le_trans hbw f3.size;clear h3 hrow3 f3)
          |(refine appR (B:=C.bb+1) (v:=av') (xs:=xs') (c:=c) HROW.out hbw3 hxl (by simp) (by decide) (by simp) (by simp) ?_;intro v4 w4 hrow4 hfr4 hos4;refine Hid.out ?_)
         refine Z ?_;have HP:=Z (mj H2.al H2.na H2.asc HCR HXL H3 HROW hrow4 hfr4 hos4);clear hrow4 hfr4 hos4;go_wp2_with fail;go_roundg R2.length
         case measure=>rw[HR.out];simp
         case rel=>exact HQ _ _ (Z ⟨HP.1,HF3.trans HP.2⟩)
        ·have q101:(c==101)=false:=beq_eq_false_iff_ne.2 h101;obtain⟨b4,hb4⟩:∃b,(c==69)=b:=⟨_,rfl⟩;have hb3:b3=b4:=by rw[HB3.out,q101,hb4];rfl
         subst hb3;clear h101;cases b3
         all_goals
          go_wp2_with first
           |(go_at_call 64;refine(oS c H2).mono ?_;rintro e w3 ⟨rfl,h3,hrow3,f3⟩;have H3:=Z h3;have HROW:=Z hrow3;have HF3:=Z (HF2.trans f3);have hbw3:=Nat.le_trans hbw f3.size;clear h3 hrow3 f3)
           |(refine appR (B:=C.bb+1) (v:=av') (xs:=xs') (c:=c) HROW.out hbw3 hxl (by simp) (by decide) (by simp) (by simp) ?_;intro v4 w4 hrow4 hfr4 hos4;refine Hid.out ?_)
          refine Z ?_;have HP:=Z (mj H2.al H2.na H2.asc HCR HXL H3 HROW hrow4 hfr4 hos4);clear hrow4 hfr4 hos4;go_wp2_with fail;go_roundg R2.length
          case measure=>rw[HR.out];simp
          case rel=>exact HQ _ _ (Z ⟨HP.1,HF3.trans HP.2⟩)
 case rest=>
  obtain⟨av',xs',R',p',rfl,HH⟩:=hcut;obtain⟨hx',he,hf,ha⟩:=HH.out;obtain⟨t,ht1,ht2⟩:=mE ha.row ha.asc hx';have HT:=Z ht2;clear hx' he hf ha ht2;go_wp2_with fail;refine qh (results_tmp results65 _ _ _) rfl ⟨t,rfl,?_,?_,HH.2.2.1⟩
  ·rw[HT.out,HH.2.1]
  ·rw[HH.2.1];exact HH.2.2.2.any
def zF(s:ByteArray):Prop:=∀i (h:i<s.size),(s[i]'h).toNat<128
def InT(s:ByteArray)(c:Int):Prop:=∃i,∃h:i<s.size,((s[i]'h).toNat:Int)=c
def x_(s:ByteArray)(c:Int)(w:World)(e:Ending)(w':World):Prop:=∃z:Int,e= .returned (.int .i64 z)∧(0≤z↔InT s c)∧Keep w w'
theorem kI(w:World)(s:ByteArray)(i:Nat):Keep w (w.iter s i):=(Fr.refl w).alloc _
theorem InT.lt{s:ByteArray}{c:Int}(ha:zF s)(h:InT s c):0≤c∧c<128:=by
 obtain⟨i,hi,h⟩:=h;have:=ha i hi;omega
theorem jS(s:ByteArray)(ha:zF s)(c:Int)(w:World):Calls prog 97 #[.string s,.int .i32 c] w (x_ s c w):=by
 have HA:=Z ha;clear ha;by_cases hbad:c<0∨c>1114111∨(55296≤c∧c≤57343)
 ·have hn:¬InT s c:=fun h=>by have:=h.lt HA.out;omega
  have HN:=Z hn;clear hn;have q:(c !=65533)=true:=by simp;omega
  rcases hbad with h|h|⟨h,h'⟩
  ·go_enter func97,ntmps97;go_wp2_with fail
   all_goals exact qh (results_tmp results97 _ _ _) rfl ⟨_,rfl,⟨fun h=>absurd h (by decide),fun h=>absurd h HN⟩,Fr.refl _⟩
  ·have h2:¬c<0:=by omega
   go_enter func97,ntmps97;go_wp2_with fail
   all_goals exact qh (results_tmp results97 _ _ _) rfl ⟨_,rfl,⟨fun h=>absurd h (by decide),fun h=>absurd h HN⟩,Fr.refl _⟩
  ·have h2:¬c<0:=by omega
   have h3:¬c>1114111:=by omega
   go_enter func97,ntmps97;go_wp2_with fail
   all_goals exact qh (results_tmp results97 _ _ _) rfl ⟨_,rfl,⟨fun h=>absurd h (by decide),fun h=>absurd h HN⟩,Fr.refl _⟩
 ·have h1:¬c<0:=by omega
  have h2:¬c>1114111:=by omega
  have h3:¬55296≤c∨¬c≤57343:=by omega
  clear hbad;go_enter func97,ntmps97;go_upto_block 0 with fail
  all_goals
   go_wp2_with fail;go_loopg [] s.size (fun k wr=>∃i:Nat,i≤s.size∧k=s.size-i∧wr=w.iter s i∧Hid (∀j,∀h:j<s.size,j<i→((s[j]'h).toNat:Int)≠c))
   case atStart=>exact⟨0,Nat.zero_le _,rfl,rfl,Z fun j _ h=>absurd h (by omega)⟩
   case round=>
    obtain⟨i,hi',rfl,rfl,HJ⟩:=hrel;by_cases hi:i<s.size
    ·have hnx:=fun ty=>run_next_ascii (P:=prog) w s i ty hi (HA i hi)
     by_cases hc:((s[i]'hi).toNat:Int)=c
     ·have HC:=Z hc;have qc:(((s[i]'hi).toNat:Int) ==c)=true:=beq_iff_eq.2 hc;clear hc;go_wp2_with fail;exact qh (results_tmp results97 _ _ _) rfl ⟨_,rfl,⟨fun _=>⟨i,hi,by first|exact HC|(have:=HC.out;omega)⟩,fun _=>by omega⟩,kI _ _ _⟩
     ·have HC:=Z hc;have qc:(((s[i]'hi).toNat:Int) ==c)=false:=beq_eq_false_iff_ne.2 hc;clear hc;go_wp2_with fail;go_roundg (s.size- (i+1))
      case measure=>omega
      case rel=>exact⟨i+1,hi,rfl,rfl,Z fun j hj hlt=>by
       by_cases e:j=i
       ·subst e;exact HC.out
       ·exact HJ j hj (by omega)⟩
    ·have hnx:=fun ty=>run_next_end (P:=prog) w s i ty hi
     have HN:=Z (show ¬InT s c from fun⟨j,hj,e⟩=>HJ j hj (by omega) e);go_wp2_with fail;exact qh (results_tmp results97 _ _ _) rfl ⟨_,rfl,⟨fun h=>absurd h (by decide),fun h=>absurd h HN⟩,kI _ _ _⟩
def yh:ByteArray:=⟨#[10,13,9,12,11,32]⟩
theorem uf:zF yh:=by
 have:∀i:Fin 6,(yh[i.1]'(i.2)).toNat<128:=by decide
 exact fun i h=>this ⟨i,h⟩
theorem wH(c:Int):InT yh c↔iA c=true:=by
 have key:∀i:Fin 6,iA ((yh[i.1]'(i.2)).toNat:Int)=true:=by decide
 constructor
 ·rintro⟨i,h,rfl⟩;exact key ⟨i,h⟩
 ·intro h;simp only[iA,Bool.or_eq_true,beq_iff_eq] at h;rcases h with((((h|h)|h)|h)|h)|h
  ·exact⟨0,by decide,by subst h;rfl⟩
  ·exact⟨1,by decide,by subst h;rfl⟩
  ·exact⟨2,by decide,by subst h;rfl⟩
  ·exact⟨3,by decide,by subst h;rfl⟩
  ·exact⟨4,by decide,by subst h;rfl⟩
  ·exact⟨5,by decide,by subst h;rfl⟩
theorem nf(c:Int)(w:World):Calls prog 63 #[.string yh,.int .i32 c] w (fun e w'=>e= .returned (.bool (iA c))∧Keep w w'):=by
 have HI:=Z (wH c);obtain⟨b,hb⟩:∃b,b=iA c:=⟨_,rfl⟩;rw[←hb] at HI ⊢;clear hb;go_enter func63,ntmps63;go_wp2_with (go_at_call 97;refine(jS yh uf c _).mono ?_;rintro e w' ⟨z,rfl,hz,kk⟩;refine Hid.out ?_);refine Z ?_;have HZ:=Z (hz.trans HI);clear hz;cases b
 ·have hz:¬z≥0:=fun h=>by have:=HZ.1 h;cases this
  go_wp2_with fail;exact qh (results_tmp results63 _ _ _) rfl ⟨rfl,kk⟩
 ·have hz:z≥0:=HZ.2 rfl;go_wp2_with fail;exact qh (results_tmp results63 _ _ _) rfl ⟨rfl,kk⟩
theorem qw(b k pb:Nat)(w:World)(hb:w.heap[b]? =some (.cells #[.slice none 0 0,.nilIface,.int .i64 0,.int .i64 0,.nilIface,.int .i64 0,.int .i64 0] 153 (0,0))):
  Calls prog 125 #[.pointer (some ⟨b,0,none⟩),.slice (some ⟨k,0,none⟩) 4096 4096,.iface 66 (.pointer (some ⟨pb,0,none⟩))] w (fun e w'=>e= .returned (.tuple #[])∧w'.heap[b]? =some (.cells #[.slice (some ⟨k,0,none⟩) 4096 4096,.iface 66 (.pointer (some ⟨pb,0,none⟩)),.int .i64 0,.int .i64 0,.nilIface,.int .i64 (-1),.int .i64 (-1)] 153 (0,0))∧Fr (· =b) w w'):=by
 have c0:w.cell? ⟨b,0,none⟩=some (.slice none 0 0):=ab hb 0;have f0:=ae hb 0;have c1:w.cell? ⟨b,1,none⟩=some (.nilIface):=ab hb 1;have f1:=ae hb 1;have c2:w.cell? ⟨b,2,none⟩=some (.int .i64 0):=ab hb 2;have f2:=ae hb 2;have c3:w.cell? ⟨b,3,none⟩=some (.int .i64 0):=ab hb 3;have f3:=ae hb 3;have c4:w.cell? ⟨b,4,none⟩=some (.nilIface):=ab hb 4;have f4:=ae hb 4;have c5:w.cell? ⟨b,5,none⟩=some (.int .i64 0):=ab hb 5;have f5:=ae hb 5;have c6:w.cell? ⟨b,6,none⟩=some (.int .i64 0):=ab hb 6;have f6:=ae hb 6;have HB:=Z hb;clear hb;go_enter func125,ntmps125;go_wp2_with fail;refine bodyPost_end (results_none results125 _ _ _) rfl ⟨rfl,?_,?_⟩
 ·rw[ag (ag (ag (ag (ag (ag (ag HB.out _ _) _ _) _ _) _ _) _ _) _ _) _ _];rfl
 ·exact((((((Fr.setIn (S:=(· =b)) (Fr.refl w) _ (show b=b from rfl)).setIn _ (show b=b from rfl)).setIn _ (show b=b from rfl)).setIn _ (show b=b from rfl)).setIn _ (show b=b from rfl)).setIn _ (show b=b from rfl)).setIn _ (show b=b from rfl)
theorem wZ:(prog.info? 5).map (fun i=>(i.zero,i.size,i.bytes))=some (some (.int .u8 0),1,1):=by kernel_rfl
theorem oM(a:Addr)(w:World):(Instr.typeAssert (.iface 66 (.pointer (some a))) 88 115 true).run prog w= .ok (.tuple #[.pointer none,.bool false]) w:=by kernel_rfl
theorem jR(C:RC)(tx:ByteArray)(cv:Value)(w:World)(hbb:C.bb=w.heap.size)(hkb:C.kb=w.heap.size+1)(hp:PBlk C w tx cv)(hc:CutsOk C w cv)(hg:Glob C w)(hs:tx.size≤1000000):
  Calls prog 92 #[.iface 66 (.pointer (some ⟨C.pb,0,none⟩)),.int .i64 4096] w (fun e w'=>e= .returned (.pointer (some ⟨C.bb,0,none⟩))∧BR C 0 0 [] tx .nilIface w'∧Keep w w'):=by
 have HP:=Z hp;have HC:=Z hc;have HG:=Z hg;obtain⟨i0,hi,hz0,hz1,hz2⟩:=info_parts wZ;obtain⟨M,hM⟩:∃M,M=madeCells (Value.int .u8 0).cells (((4096:Nat):Int).toNat*i0.size):=⟨_,rfl⟩;have hmk:∀W:World,(Instr.makeSlice 117 (.int .i64 4096) (.int .i64 4096)).run prog W= .ok (.slice (some ⟨W.heap.size,0,none⟩) 4096 4096) (W.alloc (.cells M 5)):=fun W=>by
  have h:=run_make (P:=prog) W 117 5 i0 (.int .u8 0) (by kernel_rfl) hi hz0 .i64 .i64 (4096:Int) (4096:Int) (by omega) (by omega) (by rw[hz2];omega) (by omega);rw[←show M=madeCells (Value.int .u8 0).cells ((4096:Int).toNat*i0.size) from hM] at h;simpa using h
 have hmx:max (4096:Int) 16=4096:=by decide
 have hz1':i0.size=1:=hz1;have hML:M.toList=List.replicate 4096 (.int .u8 0):=by
  rw[hM,show(Value.int .u8 0).cells=#[Value.int .u8 0] from rfl,toList_madeCells_one,hz1'];rfl
 have HML:=Z hML;clear hM hML hz0 hz1 hz2 hz1' hi;have hta:=fun W=>oM ⟨C.pb,0,none⟩ W
 clear hp hc hg;go_enter func92,ntmps92;have hb0:((w.alloc (.cells #[.slice none 0 0,.nilIface,.int .i64 0,.int .i64 0,.nilIface,.int .i64 0,.int .i64 0] 153)).alloc (.cells M 5)).heap[w.heap.size]? =some (.cells #[.slice none 0 0,.nilIface,.int .i64 0,.int .i64 0,.nilIface,.int .i64 0,.int .i64 0] 153 (0,0)):=by
  rw[Below.heap_alloc _ _ _ (by simp)];exact ql w _
 have HB0:=Z hb0;have hk0:((w.alloc (.cells #[.slice none 0 0,.nilIface,.int .i64 0,.int .i64 0,.nilIface,.int .i64 0,.int .i64 0] 153)).alloc (.cells M 5)).heap[w.heap.size+1]? =some (.cells M 5 (0,0)):=by
  have h:=ql (w.alloc (.cells #[.slice none 0 0,.nilIface,.int .i64 0,.int .i64 0,.nilIface,.int .i64 0,.int .i64 0] 153)) (.cells M 5);simpa using h
 have HK0:=Z hk0;have HKK:Hid (Keep w ((w.alloc (.cells #[.slice none 0 0,.nilIface,.int .i64 0,.int .i64 0,.nilIface,.int .i64 0,.int .i64 0] 153)).alloc (.cells M 5))):=Z (((Fr.refl w).alloc _).alloc _);clear hb0 hk0;go_wp2_with (go_at_call 125;refine(qw w.heap.size (w.heap.size+1) C.pb _ HB0).mono ?_;rintro e w3 ⟨rfl,hb3,f3⟩);refine qh (results_tmp results92 _ _ _) rfl ⟨by rw[hbb];rfl,?_,?_⟩
 ·have hn:=C.n3;have hpw:=af HP.out;have f4:Fr (RS C) _ w3:=f3.mono fun k _ e=> .inl (by rw[hbb];exact e)
  refine⟨⟨-1,-1,?_⟩,⟨M.toList,⟨?_,?_,?_⟩,?_⟩,⟨cv,?_,?_⟩,by simp,by decide,hs,.inl rfl,(HG.fr HKK.fr).fr f4⟩
  ·rw[hbb,hkb];exact hb3
  ·rw[hkb,Array.toArray_toList];exact f3.blk (fun e=>by have e':w.heap.size+1=w.heap.size:=e;omega) HK0.out
  ·rw[HML.out];simp
  ·intro v hv;rw[HML.out] at hv;exact⟨0,(List.mem_replicate.1 hv).2⟩
  ·simp[az]
  ·exact f3.blk (fun e=>by have e':C.pb=w.heap.size:=e;omega) (Keep.blk HKK HP)
  ·exact(HC.keep HKK.fr).keep (f4.mono fun _ _ e=>e)
 ·exact(HKK.fr (S:=(· =w.heap.size)) |>.trans f3).mono fun k hk e=>by
   have e':k=w.heap.size:=e;omega
theorem mR(C:RC)(tx:ByteArray)(cv:Value)(w:World)(hbb:C.bb=w.heap.size)(hkb:C.kb=w.heap.size+1)(hp:PBlk C w tx cv)(hc:CutsOk C w cv)(hg:Glob C w)(hs:tx.size≤1000000):
  Calls prog 58 #[.iface 66 (.pointer (some ⟨C.pb,0,none⟩))] w (fun e w'=>e= .returned (.pointer (some ⟨C.bb,0,none⟩))∧BR C 0 0 [] tx .nilIface w'∧Keep w w'):=by
 have HN:=Z (jR C tx cv w hbb hkb hp hc hg hs);clear hbb hkb hp hc hg;go_enter func58,ntmps58;go_wp2_with (go_at_call 92;refine HN.mono ?_;rintro e w2 ⟨rfl,hb,kk⟩);exact qh (results_tmp results58 _ _ _) rfl ⟨rfl,hb,kk⟩
end Go.Proofs.YtnclklfhjbkjhaaGreatDoor
namespace Go.Proofs.YtnclklfhjbkjhaaGreatDoor
open Tryz
open Go.RowKit
theorem fD(k:Int)(w:World):Calls prog 38 #[.int .i64 k] w (fun e w'=>e= .returned (.int .i64 (dM k))∧w=w'):=by
 by_cases h1:k=40
 ·subst h1;go_enter func38,ntmps38;go_wp2_with fail;exact qh (results_tmp results38 _ _ _) rfl ⟨rfl,rfl⟩
 by_cases h2:k=123
 ·subst h2;go_enter func38,ntmps38;go_wp2_with fail;exact qh (results_tmp results38 _ _ _) rfl ⟨rfl,rfl⟩
 by_cases h3:k=91
 ·subst h3;go_enter func38,ntmps38;go_wp2_with fail;exact qh (results_tmp results38 _ _ _) rfl ⟨rfl,rfl⟩
 by_cases h4:k=60
 ·subst h4;go_enter func38,ntmps38;go_wp2_with fail;exact qh (results_tmp results38 _ _ _) rfl ⟨rfl,rfl⟩
 have e:dM k=0:=by
  unfold dM;rw[if_neg h1,if_neg h2,if_neg h3,if_neg h4]
 have q1:(k==40)=false:=beq_eq_false_iff_ne.2 h1;have q2:(k==123)=false:=beq_eq_false_iff_ne.2 h2;have q3:(k==91)=false:=beq_eq_false_iff_ne.2 h3;have q4:(k==60)=false:=beq_eq_false_iff_ne.2 h4;rw[e];clear h1 h2 h3 h4 e;go_enter func38,ntmps38;go_wp2_with fail;exact qh (results_tmp results38 _ _ _) rfl ⟨rfl,rfl⟩
theorem iP(a:Option Addr)(n c:Nat)(w:World):Calls prog 34 #[.slice a n c] w (fun e w'=>e= .returned (if n=0 then .nilIface else .iface 72 (.slice a n c))∧w=w'):=by
 by_cases h:n=0
 ·subst h;go_enter func34,ntmps34;go_wp2_with fail;exact qh (results_tmp results34 _ _ _) rfl ⟨rfl,rfl⟩
 ·have q:((n:Int) ==0)=false:=bf (by omega);rw[if_neg h];clear h;go_enter func34,ntmps34;go_wp2_with fail;exact qh (results_tmp results34 _ _ _) rfl ⟨rfl,rfl⟩
theorem b9(k:Int)(w:World):Calls prog 36 #[.int .i64 k] w (fun e w'=>(∃s:ByteArray,e= .returned (.string s))∧w=w'):=by
 by_cases h1:k=0∨k=65537∨k=65538∨k=65539
 ·rcases h1 with rfl|rfl|rfl|rfl
  all_goals
   go_enter func36,ntmps36;go_wp2_with fail;exact qh (results_tmp results36 _ _ _) rfl ⟨⟨_,rfl⟩,rfl⟩
 have q1:(k==0)=false:=bf (by omega);have q2:(k==65537)=false:=bf (by omega);have q3:(k==65538)=false:=bf (by omega);have q4:(k==65539)=false:=bf (by omega);clear h1;have hsz:(Utf8.encode (wrap32 k)).size≤4:=encode_size_le _;have hs1:(⟨#[39]⟩:ByteArray).size=1:=rfl;go_enter func36,ntmps36;go_wp2_with fail
 all_goals
  first
  |exact qh (results_tmp results36 _ _ _) rfl ⟨⟨_,rfl⟩,rfl⟩
  |(exfalso
    rename_i h;simp only[ByteArray.size_append,hs1] at h;omega)
end Go.Proofs.YtnclklfhjbkjhaaGreatDoor
