/- Part of the proof: G5. -/
import Derived.Test.YtnclklfhjbkjhaaGreatDoorGa
import Derived.Test.YtnclklfhjbkjhaaGreatDoorFa
import Derived.Laws.BitsAllLaws
set_option maxRecDepth 1000000
set_option maxHeartbeats 40000000
set_option linter.unusedSimpArgs false
namespace Go.Proofs.YtnclklfhjbkjhaaGreatDoor
open Tryz
open Go.RowKit
def xU(s:ByteArray)(w:World)(e:Ending)(w':World):Prop:=
 ∃ (m x:Int) (tr:Bool) (i:Nat) (ok:Bool),e= .returned (.tuple #[.int .u64 m,.int .i64 x,.bool false,.bool tr,.bool false,.int .i64 i,.bool ok])∧w=w'∧0≤m∧m<10000000000000000000∧ -300000≤x∧x≤300000∧i≤s.size
theorem uG:∀n:Fin 256,oc (n.1:Int)=true→(n.1|||32)=if n.1=69 then 101 else n.1:=by decide
theorem om{c:UInt8}(h:oc (c.toNat:Int)=true):bits .or .u8 (c.toNat:Int) 32=if c.toNat=69 then 101 else(c.toNat:Int):=by
 have hc:=c.toNat_lt;rw[show(32:Int)=((32:Nat):Int) from rfl,u8_or_nat c.toNat 32 hc (by decide),uG ⟨c.toNat,hc⟩ h];simp only;split<;>rfl
theorem rT{n:Nat}(h:n≤18):(10:Nat) ^n≤1000000000000000000:=Nat.le_trans (Nat.pow_le_pow_right (by decide) h) (by decide)
def RFI(s:ByteArray)(m dp:Int)(i nd nm:Nat):Prop:=0≤m∧m< ((10^nm:Nat):Int)∧ -(i:Int)≤dp∧dp≤i∧nm≤nd∧nd≤i∧nm≤19∧i≤s.size
theorem RFI.next{s:ByteArray}{m dp:Int}{i nd nm:Nat}(h:RFI s m dp i nd nm)(hi:i<s.size)(d:Int)(h0:0≤d)(h9:d≤9)(hn:nm<19):RFI s (m*10+d) dp (i+1) (nd+1) (nm+1):=by
 obtain⟨g1,g2,g3,g4,g5,g6,g7,g8⟩:=h;refine⟨by omega,?_,by omega,by omega,by omega,by omega,by omega,hi⟩;rw[Nat.pow_succ];omega
theorem RFI.small{s:ByteArray}{m dp:Int}{i nd nm:Nat}(h:RFI s m dp i nd nm)(hn:nm<19):m<1000000000000000000:=by
 obtain⟨g1,g2,-⟩:=h;have:=rT (n:=nm) (by omega);omega
theorem RFI.big{s:ByteArray}{m dp:Int}{i nd nm:Nat}(h:RFI s m dp i nd nm):m<10000000000000000000:=by
 obtain⟨g1,g2,-,-,-,-,g7,-⟩:=h;have:(10:Nat) ^nm≤10^19:=Nat.pow_le_pow_right (by decide) g7;omega
theorem RFI.skip{s:ByteArray}{m dp:Int}{i nd nm:Nat}(h:RFI s m dp i nd nm)(hi:i<s.size):RFI s m dp (i+1) nd nm:=by
 obtain⟨g1,g2,g3,g4,g5,g6,g7,g8⟩:=h;exact⟨g1,g2,by omega,by omega,g5,by omega,g7,hi⟩
theorem RFI.more{s:ByteArray}{m dp:Int}{i nd nm:Nat}(h:RFI s m dp i nd nm)(hi:i<s.size):RFI s m dp (i+1) (nd+1) nm:=by
 obtain⟨g1,g2,g3,g4,g5,g6,g7,g8⟩:=h;exact⟨g1,g2,by omega,by omega,by omega,by omega,g7,hi⟩
theorem RFI.dot{s:ByteArray}{m dp:Int}{i nd nm:Nat}(h:RFI s m dp i nd nm)(hi:i<s.size):RFI s m nd (i+1) nd nm:=by
 obtain⟨g1,g2,g3,g4,g5,g6,g7,g8⟩:=h;exact⟨g1,g2,by omega,by omega,g5,by omega,g7,hi⟩
theorem RFI.zero{s:ByteArray}{m dp:Int}{i nd nm:Nat}(h:RFI s m dp i nd nm)(hi:i<s.size):RFI s m (dp-1) (i+1) nd nm:=by
 obtain⟨g1,g2,g3,g4,g5,g6,g7,g8⟩:=h;exact⟨g1,g2,by omega,by omega,g5,by omega,g7,hi⟩
theorem kA{c:Int}(h:oc c=true):(48≤c∧c≤57)∨c=46∨c=101∨c=69∨c=43∨c=45:=by
 simp only[oc,aV,Bool.or_eq_true,Bool.and_eq_true,decide_eq_true_eq,beq_iff_eq] at h;omega
theorem jc{c:Int}(h:oc c=true):(48≤c∧c≤57)∨c=46∨(c<48∧c≠46∧c≠95)∨(57<c∧c≠46∧c≠95):=by
 have:=kA h;omega
theorem em{c:Int}(h:oc c=true):(48≤c∧c≤57)∨(c<48∧c≠95)∨(57<c∧c≠95):=by
 have:=kA h;omega
theorem jQ(s:ByteArray)(w:World)(hs:s.size≤100000)(hok:RealOk s):Calls prog 172 #[.string s] w (xU s w):=by
 have h0:0<s.size:=hok.2.1;have hz0:(0:Int) < (s.size:Int):=by omega
 have HOK:=Z hok;have HB0:=Z (aq h0);have hc0:46≤((s[0]'h0).toNat:Int)∧((s[0]'h0).toNat:Int)≤57:=by
  rw[←aq h0];rcases hok.2.2 with h|h
  ·simp only[aV,Bool.and_eq_true,decide_eq_true_eq] at h;omega
  ·omega
 have q43:(((s[0]'h0).toNat:Int) ==43)=false:=bf (by omega);have q45:(((s[0]'h0).toNat:Int) ==45)=false:=bf (by omega);have hge:¬ (0:Int)≥(s.size:Int):=by omega
 clear hok hc0;have hse:¬s=ByteArray.empty:=fun e=>by rw[e] at h0;exact absurd h0 (by decide)
 go_enter func172,ntmps172;go_wp2_with fail;go_step3;go_upto_region 11 with fail;go_cut [12] (fun s12 wx=>s12= .int .u8 101∧wx=w)
 case first=>
  go_wp2_with fail;go_meet;exact⟨rfl,rfl⟩
 case rest=>
  obtain⟨rfl,rfl⟩:=hcut;go_step;go_step;go_cut [6,7,10,11,12,27] (fun s6 s7 s10 s11 s12 _ wx=>s6= .bool false∧s7= .int .i64 0∧s10= .int .u64 10∧s11= .int .i64 19∧s12= .int .u8 101∧wx=wc)
  case first=>
   as_aux_lemma=>
   by_cases h2:2<s.size
   ·have h2z:(2:Int) < (s.size:Int):=by omega
    have h1:1<s.size:=by omega
    have hl1:(bits .or .u8 ((s[1]'h1).toNat:Int) 32==120)=false:=by
     have hk:=HOK.1 1 h1;rw[aq h1] at hk;rw[om hk];refine beq_eq_false_iff_ne.2 ?_;simp only[oc,aV,Bool.or_eq_true,Bool.and_eq_true,decide_eq_true_eq,beq_iff_eq] at hk;split<;>omega
    go_wp2_with (go_at_call 157;refine(am _ _).mono ?_;rintro e w' ⟨rfl,rfl⟩)
    all_goals
     go_meet;exact⟨rfl,rfl,rfl,rfl,rfl,rfl⟩
   ·have h2z:¬ (2:Int) < (s.size:Int):=by omega
    go_wp2_with fail
    all_goals
     go_meet;exact⟨rfl,rfl,rfl,rfl,rfl,rfl⟩
  case rest=>
   obtain⟨rfl,rfl,rfl,rfl,rfl,rfl⟩:=hcut;clear q43 q45 hge;go_wp2_with fail;go_step3;go_step;go_step;go_step;go_cut [2,5,7,9,13,14,15,16,17] (fun s2 s5 s7 s9 s13 s14 s15 s16 s17 wx=>wx=wc∧∃ (m dp:Int) (tr sd sg:Bool) (i nd nm:Nat),s2= .int .u64 m∧s5= .bool tr∧s7= .int .i64 i∧s9= .bool false∧s13= .bool sd∧s14= .bool sg∧s15= .int .i64 nd∧s16= .int .i64 nm∧s17= .int .i64 dp∧Hid (RFI s m dp i nd nm))
   case first=>
    as_aux_lemma=>
    go_wp2_with fail;go_loopw [2,5,7,9,13,14,15,16,17] (fun s2 s5 s7 s9 s13 s14 s15 s16 s17 wr=>wr=wc∧∃ (m dp:Int) (tr sd sg:Bool) (i nd nm:Nat),s2= .int .u64 m∧s5= .bool tr∧s7= .int .i64 i∧s9= .bool false∧s13= .bool sd∧s14= .bool sg∧s15= .int .i64 nd∧s16= .int .i64 nm∧s17= .int .i64 dp∧Hid (RFI s m dp i nd nm)) (fun _ _ s7 _ _ _ _ _ _ _=>s.size-br s7)
    case atStart=>exact⟨rfl,0,0,false,false,false,0,0,0,rfl,rfl,rfl,rfl,rfl,rfl,rfl,rfl,rfl,Z ⟨by decide,by decide,by decide,by decide,by decide,by decide,by decide,Nat.zero_le _⟩⟩
    case round=>
     obtain⟨rfl,m,dp,tr,sd,sg,i,nd,nm,rfl,rfl,rfl,rfl,rfl,rfl,rfl,rfl,rfl,HR⟩:=hrel;have hm0:0≤m:=HR.1;have hi0:(0:Int)≤(i:Int):=by omega
     have hib:(i:Int)≤100000:=by have:=HR.2.2.2.2.2.2.2;omega
     have hnd:(nd:Int)≤100000:=by have:=HR.2.2.2.2.2.1;omega
     have hnd0:(0:Int)≤(nd:Int):=by omega
     have hnm:(nm:Int)≤19:=by have:=HR.2.2.2.2.2.2.1;omega
     have hnm0:(0:Int)≤(nm:Int):=by omega
     have hdp: -100000≤dp∧dp≤100000:=by have:=HR.2.2.1;have:=HR.2.2.2.1;omega
     obtain⟨hdp1,hdp2⟩:=hdp;by_cases hi:i<s.size
     ·have hiz:(i:Int) < (s.size:Int):=by omega
      have hk:=HOK.1 i hi;rw[aq hi] at hk;rcases jc hk with⟨hc1,hc2⟩|hc|⟨hc,hcn,hcm⟩|⟨hc,hcn,hcm⟩
      ·have q46:(((s[i]'hi).toNat:Int) ==46)=false:=bf (by omega);have q95:(((s[i]'hi).toNat:Int) ==95)=false:=bf (by omega);clear hk;by_cases h48:((s[i]'hi).toNat:Int)=48
       ·by_cases hn0:nd=0
        ·subst hn0;clear hc1 hc2 q46 q95
         as_aux_lemma=>
         go_wp2_with fail;go_roundw
         case rel=>exact⟨by trivial,m,dp-1,tr,sd,true,i+1,0,nm,by simp,rfl,by simp,rfl,rfl,rfl,by simp,by simp,by simp,Z (HR.zero hi)⟩
         case measure=>simp only[br];omega
        ·have qn0:((nd:Int) ==0)=false:=bf (by omega);by_cases h19:nm<19
         ·have h19z:(nm:Int) <19:=by omega
          have hms:=HR.small h19;have HN:=Z (HR.next hi 0 (by decide) (by decide) h19);clear hc1 hc2 q46 q95 hn0
          as_aux_lemma=>
          go_wp2_with fail;go_roundw
          case rel=>exact⟨by trivial,m*10+0,dp,tr,sd,true,i+1,nd+1,nm+1,by simp,rfl,by simp,rfl,rfl,rfl,by simp,by simp,by simp,Z (HN.out)⟩
          case measure=>simp only[br];omega
         ·have h19z:¬ (nm:Int) <19:=by omega
          clear hc1 hc2 q46 q95 hn0
          as_aux_lemma=>
          go_wp2_with fail;go_roundw
          case rel=>exact⟨by trivial,m,dp,tr,sd,true,i+1,nd+1,nm,by simp,rfl,by simp,rfl,rfl,rfl,by simp,by simp,by simp,Z (HR.more hi)⟩
          case measure=>simp only[br];omega
       ·have q48:(((s[i]'hi).toNat:Int) ==48)=false:=beq_eq_false_iff_ne.2 h48;have q48n:(((s[i]'hi).toNat:Int) !=48)=true:=by simpa using h48
        clear h48;by_cases h19:nm<19
        ·have h19z:(nm:Int) <19:=by omega
         have hms:=HR.small h19;have HN:=Z (HR.next hi (((s[i]'hi).toNat:Int) -48) (by omega) (by omega) h19)
         as_aux_lemma=>
         go_wp2_with fail;go_roundw
         case rel=>exact⟨by trivial,m*10+(((s[i]'hi).toNat:Int) -48),dp,tr,sd,true,i+1,nd+1,nm+1,by simp,rfl,by simp,rfl,rfl,rfl,by simp,by simp,by simp,Z (HN.out)⟩
         case measure=>simp only[br];omega
        ·have h19z:¬ (nm:Int) <19:=by omega
         as_aux_lemma=>
         go_wp2_with fail;go_roundw
         case rel=>exact⟨by trivial,m,dp,true,sd,true,i+1,nd+1,nm,by simp,rfl,by simp,rfl,rfl,rfl,by simp,by simp,by simp,Z (HR.more hi)⟩
         case measure=>simp only[br];omega
      ·clear hk;cases sd
       ·as_aux_lemma=>
         go_wp2_with fail;go_roundw
         case rel=>exact⟨by trivial,m,(nd:Int),tr,true,sg,i+1,nd,nm,by simp,rfl,by simp,rfl,rfl,rfl,by simp,by simp,by simp,Z (HR.dot hi)⟩
         case measure=>simp only[br];omega
       ·go_wp2_with fail;go_meet;exact⟨rfl,m,dp,tr,true,sg,i,nd,nm,rfl,rfl,rfl,rfl,rfl,rfl,rfl,rfl,rfl,HR⟩
      ·have q46:(((s[i]'hi).toNat:Int) ==46)=false:=bf (by omega);have q95:(((s[i]'hi).toNat:Int) ==95)=false:=bf (by omega);clear hk
       as_aux_lemma=>
        go_wp2_with fail;go_meet;exact⟨rfl,m,dp,tr,sd,sg,i,nd,nm,rfl,rfl,rfl,rfl,rfl,rfl,rfl,rfl,rfl,HR⟩
      ·have q46:(((s[i]'hi).toNat:Int) ==46)=false:=bf (by omega);have q95:(((s[i]'hi).toNat:Int) ==95)=false:=bf (by omega);clear hk
       as_aux_lemma=>
        go_wp2_with fail;go_meet;exact⟨rfl,m,dp,tr,sd,sg,i,nd,nm,rfl,rfl,rfl,rfl,rfl,rfl,rfl,rfl,rfl,HR⟩
     ·have hiz:¬ (i:Int) < (s.size:Int):=by omega
      go_wp2_with fail;go_meet;exact⟨rfl,m,dp,tr,sd,sg,i,nd,nm,rfl,rfl,rfl,rfl,rfl,rfl,rfl,rfl,rfl,HR⟩
   case rest=>
    obtain⟨rfl,m,dp,tr,sd,sg,i,nd,nm,rfl,rfl,rfl,rfl,rfl,rfl,rfl,rfl,rfl,HR⟩:=hcut;have hm0:0≤m:=HR.1;have hm1:m<10000000000000000000:=HR.big;have hi0:(0:Int)≤(i:Int):=by omega
    have hil:i≤s.size:=HR.2.2.2.2.2.2.2;have hib:(i:Int)≤100000:=by omega
    have hnd:(nd:Int)≤100000:=by have:=HR.2.2.2.2.2.1;omega
    have hnd0:(0:Int)≤(nd:Int):=by omega
    have hnd1: -100000≤(nd:Int):=by omega
    have hnm:(nm:Int)≤19:=by have:=HR.2.2.2.2.2.2.1;omega
    have hnm0:(0:Int)≤(nm:Int):=by omega
    have hdp: -100000≤dp∧dp≤100000:=by have:=HR.2.2.1;have:=HR.2.2.2.1;omega
    obtain⟨hdp1,hdp2⟩:=hdp;clear HR;cases sg
    ·go_wp2_with fail
     try rw[Exit.noGoto_ret]
     exact qh (v:= .tuple #[.int .u64 (m),.int .i64 (0),.bool false,.bool tr,.bool false,.int .i64 ((i:Nat):Int),.bool false]) (by simp[results,results172,go_sem]) rfl ⟨_,_,_,_,_,rfl,rfl,hm0,hm1,by decide,by decide,hil⟩
    ·go_step;go_step;go_cut [17] (fun s17 wx=>s17= .int .i64 dp∧wx=wc)
     case first=>
      go_wp2_with fail;go_meet;exact⟨rfl,rfl⟩
     case rest=>
      obtain⟨rfl,rfl⟩:=hcut;go_step;go_step;go_cut [17] (fun s17 wx=>∃dp':Int,s17= .int .i64 dp'∧ -100000≤dp'∧dp'≤100000∧wx=wc)
      case first=>
       as_aux_lemma=>
       cases sd
       ·go_wp2_with fail;go_meet;exact⟨(nd:Int),rfl,hnd1,hnd,rfl⟩
       ·go_wp2_with fail;go_meet;exact⟨dp,rfl,hdp1,hdp2,rfl⟩
      case rest=>
       obtain⟨dp',rfl,hd1,hd2,rfl⟩:=hcut;clear hdp1 hdp2 hnd hnd0 hnd1;have hd1': -200000≤dp':=by omega
       have hd2':dp'≤200000:=by omega
       go_step;go_step;go_cut [16,17] (fun s16 s17 wx=>s16= .int .i64 (nm:Int)∧s17= .int .i64 dp'∧wx=wc)
       case first=>
        go_wp2_with fail;go_meet;exact⟨rfl,rfl,rfl⟩
       case rest=>
        obtain⟨rfl,rfl,rfl⟩:=hcut;go_step;go_step;go_cut [7,9,17] (fun s7 s9 s17 wx=>∃ (i':Nat) (dq:Int),s7= .int .i64 (i':Int)∧i'≤s.size∧s9= .bool false∧s17= .int .i64 dq∧ -200000≤dq∧dq≤200000∧wx=wc)
        case first=>
         as_aux_lemma=>
         by_cases hi:i<s.size
         ·have hiz:(i:Int) < (s.size:Int):=by omega
          have hk:=HOK.1 i hi;rw[aq hi] at hk;have hl:=om hk;by_cases hE:(s[i]'hi).toNat=101∨(s[i]'hi).toNat=69
          ·have q101:bits .or .u8 ((s[i]'hi).toNat:Int) 32=101:=by
            rw[hl];rcases hE with h|h<;>simp[h]
           clear hl hk hE;by_cases hi1:i+1<s.size
           ·have hi1z:(i:Int)+1< (s.size:Int):=by omega
            have hi1n:¬ (i:Int)+1≥(s.size:Int):=by omega
            go_upto_region 60 with(go_at_call 157;refine(am _ _).mono ?_;rintro e w' ⟨rfl,rfl⟩);go_cut [19] (fun s19 wx=>s19= .int .i64 1∧wx=wc)
            case first=>
             go_wp2_with fail;go_meet;exact⟨rfl,rfl⟩
            case rest=>
             obtain⟨rfl,rfl⟩:=hcut;go_step;go_step;go_cut [7,19] (fun s7 s19 wx=>∃ (i2:Nat) (es:Int),s7= .int .i64 (i2:Int)∧i2≤s.size∧s19= .int .i64 es∧(es=1∨es= -1)∧wx=wc)
             case first=>
              as_aux_lemma=>
              have hk:=HOK.1 (i+1) hi1;rw[aq hi1] at hk;clear hk;by_cases h43:((s[i+1]'hi1).toNat:Int)=43
              ·as_aux_lemma=>
               go_wp2_with fail;go_meet;exact⟨i+2,1,by simp<;>omega,hi1,rfl,.inl rfl,rfl⟩
              ·have q43:(((s[i+1]'hi1).toNat:Int) ==43)=false:=beq_eq_false_iff_ne.2 h43;clear h43;by_cases h45:((s[i+1]'hi1).toNat:Int)=45
               ·as_aux_lemma=>
                go_wp2_with fail;go_meet;exact⟨i+2,-1,by simp<;>omega,hi1,rfl,.inr rfl,rfl⟩
               ·have q45:(((s[i+1]'hi1).toNat:Int) ==45)=false:=beq_eq_false_iff_ne.2 h45;clear h45
                as_aux_lemma=>
                go_wp2_with fail;go_meet;exact⟨i+1,1,by simp,Nat.le_of_lt hi1,rfl,.inl rfl,rfl⟩
             case rest=>
              obtain⟨i2,es,rfl,hi2',rfl,hes,rfl⟩:=hcut;have hi20:(0:Int)≤(i2:Int):=by omega
              have hi2b:(i2:Int)≤100000:=by omega
              clear hi0 hib hiz hi1z hi1n q101;go_step;go_step;by_cases hi2:i2<s.size
              ·have hi2z:(i2:Int) < (s.size:Int):=by omega
               have hi2n:¬ (i2:Int)≥(s.size:Int):=by omega
               have hk:=HOK.1 i2 hi2;rw[aq hi2] at hk;rcases em hk with⟨hc1,hc2⟩|⟨hc,hcm⟩|⟨hc,hcm⟩
               ·clear hk;go_cut [7] (fun s7 wx=>s7= .int .i64 (i2:Int)∧wx=wc)
                case first=>
                 as_aux_lemma=>
                 go_wp2_with fail;go_meet;exact⟨rfl,rfl⟩
                case rest=>
                 obtain⟨rfl,rfl⟩:=hcut;clear hc1 hc2;go_step;go_step;go_cut [20] (fun s20 wx=>s20= .int .i64 0∧wx=wc)
                 case first=>
                  go_wp2_with fail;go_meet;exact⟨rfl,rfl⟩
                 case rest=>
                  obtain⟨rfl,rfl⟩:=hcut;go_step;go_step;go_cut [7,9,20] (fun s7 s9 s20 wx=>wx=wc∧∃ (i':Nat) (e:Int),s7= .int .i64 (i':Int)∧i'≤s.size∧s9= .bool false∧s20= .int .i64 e∧0≤e∧e≤99999)
                  case first=>
                   as_aux_lemma=>
                   go_wp2_with fail;go_loopw [7,9,20] (fun s7 s9 s20 wr=>wr=wc∧∃ (i':Nat) (e:Int),s7= .int .i64 (i':Int)∧i'≤s.size∧s9= .bool false∧s20= .int .i64 e∧0≤e∧e≤99999) (fun s7 _ _ _=>s.size-br s7)
                   case atStart=>exact⟨rfl,i2,0,rfl,Nat.le_of_lt hi2,rfl,rfl,by decide,by decide⟩
                   case round=>
                    obtain⟨rfl,i',e,rfl,hi',rfl,rfl,he0,he1⟩:=hrel;have hi0':(0:Int)≤(i':Int):=by omega
                    have hib':(i':Int)≤100000:=by omega
                    by_cases hj:i'<s.size
                    ·have hjz:(i':Int) < (s.size:Int):=by omega
                     have hk:=HOK.1 i' hj;rw[aq hj] at hk;rcases em hk with⟨hc1,hc2⟩|⟨hc,hcm⟩|⟨hc,hcm⟩
                     ·have q95:(((s[i']'hj).toNat:Int) ==95)=false:=bf (by omega);clear hk;by_cases h4:e<10000
                      ·have he2:0≤e*10+((s[i']'hj).toNat:Int) -48:=by omega
                       have he3:e*10+((s[i']'hj).toNat:Int) -48≤99999:=by omega
                       as_aux_lemma=>
                       go_wp2_with fail;go_roundw
                       case rel=>exact⟨by trivial,i'+1,_,by simp,hj,rfl,rfl,he2,he3⟩
                       case measure=>simp only[br];omega
                      ·go_wp2_with fail;go_roundw
                       case rel=>exact⟨by trivial,i'+1,_,by simp,hj,rfl,rfl,he0,he1⟩
                       case measure=>simp only[br];omega
                     all_goals
                      have q95:(((s[i']'hj).toNat:Int) ==95)=false:=bf (by omega);clear hk
                      as_aux_lemma=>
                      go_wp2_with fail;go_meet;exact⟨rfl,i',e,rfl,hi',rfl,rfl,he0,he1⟩
                    ·have hjz:¬ (i':Int) < (s.size:Int):=by omega
                     go_wp2_with fail;go_meet;exact⟨rfl,i',e,rfl,hi',rfl,rfl,he0,he1⟩
                  case rest=>
                   obtain⟨rfl,i',e,rfl,hi',rfl,rfl,he0,he1⟩:=hcut;rcases hes with rfl|rfl
                   ·have hx1: -200000≤dp'+e*1:=by omega
                    have hx2:dp'+e*1≤200000:=by omega
                    have he0':0≤e*1:=by omega
                    have he1':e*1≤99999:=by omega
                    as_aux_lemma=>
                    go_wp2_with fail;go_meet;exact⟨i',dp'+e*1,rfl,hi',rfl,by simp,hx1,hx2,rfl⟩
                   ·have hx1: -200000≤dp'+e* -1:=by omega
                    have hx2:dp'+e* -1≤200000:=by omega
                    have he0': -99999≤e* -1:=by omega
                    have he1':e* -1≤0:=by omega
                    as_aux_lemma=>
                    go_wp2_with fail;go_meet;exact⟨i',dp'+e* -1,rfl,hi',rfl,by simp,hx1,hx2,rfl⟩
               all_goals
                clear hk
                as_aux_lemma=>
                go_wp2_with fail
                try rw[Exit.noGoto_ret]
                exact qh (v:= .tuple #[.int .u64 (m),.int .i64 (0),.bool false,.bool tr,.bool false,.int .i64 ((i2:Nat):Int),.bool false]) (by simp[results,results172,go_sem]) rfl ⟨_,_,_,_,_,rfl,rfl,hm0,hm1,by decide,by decide,hi2'⟩
              ·have hi2n:(i2:Int)≥(s.size:Int):=by omega
               have hi2z:¬ (i2:Int) < (s.size:Int):=by omega
               as_aux_lemma=>
               go_wp2_with fail
               try rw[Exit.noGoto_ret]
               exact qh (v:= .tuple #[.int .u64 (m),.int .i64 (0),.bool false,.bool tr,.bool false,.int .i64 ((i2:Nat):Int),.bool false]) (by simp[results,results172,go_sem]) rfl ⟨_,_,_,_,_,rfl,rfl,hm0,hm1,by decide,by decide,hi2'⟩
           ·have hi1n:(i:Int)+1≥(s.size:Int):=by omega
            as_aux_lemma=>
            go_wp2_with (go_at_call 157;refine(am _ _).mono ?_;rintro e w' ⟨rfl,rfl⟩)
            try rw[Exit.noGoto_ret]
            exact qh (v:= .tuple #[.int .u64 (m),.int .i64 (0),.bool false,.bool tr,.bool false,.int .i64 ((i+1:Nat):Int),.bool false]) (by simp[results,results172,go_sem]) rfl ⟨_,_,_,_,_,rfl,rfl,hm0,hm1,by decide,by decide,hi⟩
          ·have q101:(bits .or .u8 ((s[i]'hi).toNat:Int) 32==101)=false:=by
            rw[hl];refine beq_eq_false_iff_ne.2 ?_;split<;>omega
           clear hl hk hE
           as_aux_lemma=>
           go_wp2_with (go_at_call 157;refine(am _ _).mono ?_;rintro e w' ⟨rfl,rfl⟩);go_meet;exact⟨i,dp',rfl,hil,rfl,rfl,hd1',hd2',rfl⟩
         ·have hiz:¬ (i:Int) < (s.size:Int):=by omega
          as_aux_lemma=>
          go_wp2_with fail;go_meet;exact⟨i,dp',rfl,hil,rfl,rfl,hd1',hd2',rfl⟩
        case rest=>
         obtain⟨i',dq,rfl,hi',rfl,rfl,hq1,hq2,rfl⟩:=hcut;clear hi0 hib hil;by_cases hm:m=0
         ·subst hm;go_wp2_with fail
          try rw[Exit.noGoto_ret]
          exact qh (v:= .tuple #[.int .u64 (0),.int .i64 (0),.bool false,.bool tr,.bool false,.int .i64 ((i':Nat):Int),.bool true]) (by simp[results,results172,go_sem]) rfl ⟨_,_,_,_,_,rfl,rfl,by decide,by decide,by decide,by decide,hi'⟩
         ·have qm:(m !=0)=true:=by simpa using hm
          have hx1: -300000≤dq- (nm:Int):=by omega
          have hx2:dq- (nm:Int)≤300000:=by omega
          go_wp2_with fail
          try rw[Exit.noGoto_ret]
          exact qh (v:= .tuple #[.int .u64 (m),.int .i64 (dq- (nm:Int)),.bool false,.bool tr,.bool false,.int .i64 ((i':Nat):Int),.bool true]) (by simp[results,results172,go_sem]) rfl ⟨_,_,_,_,_,rfl,rfl,hm0,hm1,hx1,hx2,hi'⟩
end Go.Proofs.YtnclklfhjbkjhaaGreatDoor
