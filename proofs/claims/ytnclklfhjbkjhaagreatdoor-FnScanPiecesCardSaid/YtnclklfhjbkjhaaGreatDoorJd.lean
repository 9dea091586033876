/- Part of the proof: J6. -/
import Derived.Test.YtnclklfhjbkjhaaGreatDoorJa
import Derived.Test.YtnclklfhjbkjhaaGreatDoorGe
set_option maxRecDepth 1000000
set_option maxHeartbeats 40000000
set_option linter.unusedSimpArgs false
namespace Go.Proofs.YtnclklfhjbkjhaaGreatDoor
open Tryz
open Go.RowKit
theorem DM.setNg{w:World}{b:Nat}{l:List Nat}{dp:Int}{tr:Bool}(h:DM w b l dp tr):DM (w.setCell ⟨b,802,none⟩ (.bool false)) b l dp tr:=by
 obtain⟨cs,h1,h⟩:=h;refine⟨_,ag h1 _ _,?_⟩;have hs:=h.size;refine⟨by simpa using h.size,?_,?_,?_,?_,?_,?_,h.figs,h.len⟩
 ·rw[qj (by decide)];exact h.nd
 ·rw[qj (by decide)];exact h.dp
 ·rw[Array.getElem?_setIfInBounds_self_of_lt (by omega)]
 ·rw[qj (by decide)];exact h.tr
 ·intro i hi;rw[qj (by omega)];exact h.any i hi
 ·intro i hi;have:=h.len;rw[qj (by omega)];exact h.fig i hi
theorem DM.any{w:World}{b:Nat}{l:List Nat}{dp:Int}{tr:Bool}(h:DM w b l dp tr)(i:Nat)(hi:i<800):∃x:Int,w.cell? ⟨b,i,none⟩=some (.int .u8 x):=by
 obtain⟨cs,h1,h2⟩:=h;obtain⟨x,hx,-,-⟩:=h2.any i hi;exact⟨x,by rw[ab h1];exact hx⟩
def HP(l:List Nat):Prop:=∀a t,l=a::t→0<a
theorem HP.nil:HP []:=fun a t h=>by simp at h
theorem HP.push{l:List Nat}(h:HP l)(d:Nat)(hd:l=[]→0<d):HP (l++ [d]):=fun a t e=>by
 cases l with
 |nil=>simp at e;have:=hd rfl;omega
 |cons x l=>simp at e;exact e.1▸h x l rfl
structure Fx(s:ByteArray):Prop where
 size:s.size≤100000
 all:∀j (h:j<s.size),oc ((s[j]'h).toNat:Int)=true
 fst:∀ (h:0<s.size),46≤((s[0]'h).toNat:Int)∧((s[0]'h).toNat:Int)≤57
def vz(b:Nat)(w:World)(e:Ending)(w':World):Prop:=∃ (ok:Bool),e= .returned (.bool ok)∧Fr (· =b) w w'∧∃ (l:List Nat) (dp:Int) (tr:Bool),DM w' b l dp tr∧HP l
theorem ui(b:Nat)(s:ByteArray)(dp:Int)(tr:Bool)(w:World)(hx:Fx s)(hd:DM w b [] dp tr):
  Calls prog 178 #[.pointer (some ⟨b,0,none⟩),.string s] w (vz b w):=by
 have hs:=hx.size;have HX:=Z hx;obtain⟨f0,f1,f2,f3,ff,-,-⟩:=hd.facts;have ff2:=ff 802;have ff3:=ff 803;have HD:=Z (hd.setNg.setTr false);have HF:Hid (Fr (· =b) w ((w.setCell ⟨b,802,none⟩ (.bool false)).setCell ⟨b,803,none⟩ (.bool false))):=Z ((Fr.setIn (S:=(· =b)) (Fr.refl w) _ (show b=b from rfl)).setIn _ (show b=b from rfl));clear hd hx ff f0 f1;by_cases h0:0<s.size
 case neg=>
  have h0n:(s.size:Int)=0:=by omega
  go_enter func178,ntmps178
  as_aux_lemma=>
  go_wp2_with fail
  all_goals exact qh (results_tmp results178 _ _ _) rfl ⟨_,rfl,HF,_,_,_,HD,HP.nil⟩
 have hz0:(0:Int) < (s.size:Int):=by omega
 have hge:¬ (0:Int)≥(s.size:Int):=by omega
 have hc0:=HX.fst h0;have q43:(((s[0]'h0).toNat:Int) ==43)=false:=bf (by omega);have q45:(((s[0]'h0).toNat:Int) ==45)=false:=bf (by omega);have hse:¬s=ByteArray.empty:=fun e=>by rw[e] at h0;exact absurd h0 (by decide)
 clear hc0;go_enter func178,ntmps178;go_upto_block 1 with fail;clear q43 q45 hge;generalize(w.setCell ⟨b,802,none⟩ (.bool false)).setCell ⟨b,803,none⟩ (.bool false)=w0 at HD HF ⊢;clear f2 f3 ff2 ff3;go_cut [5,6,7] (fun s5 s6 s7 wx=>∃ (i:Nat) (sd sg:Bool) (l:List Nat) (dp:Int) (tr:Bool),s5= .int .i64 (i:Int)∧s6= .bool sd∧s7= .bool sg∧i≤s.size∧Hid (Fr (· =b) w wx)∧Hid (DM wx b l dp tr)∧Hid (HP l))
 case first=>
  go_wp2_with fail;go_loopw [5,6,7] (fun s5 s6 s7 wr=>∃ (i:Nat) (sd sg:Bool) (l:List Nat) (dp:Int) (tr:Bool),s5= .int .i64 (i:Int)∧s6= .bool sd∧s7= .bool sg∧i≤s.size∧Hid (Fr (· =b) w wr)∧Hid (DM wr b l dp tr)∧Hid (HP l)) (fun s5 _ _ _=>match s5 with| .int _ i=>s.size-i.toNat|_=>0)
  case atStart=>exact⟨0,false,false,[],dp,false,rfl,rfl,rfl,Nat.zero_le _,HF,HD,Z HP.nil⟩
  case round=>
   obtain⟨i,sd,sg,l,dp,tr,rfl,rfl,rfl,hi',HFr,HDM,HPL⟩:=hrel;obtain⟨g0,g1,-,g3,gg,-,gl⟩:=HDM.facts;have hib:(i:Int)≤100000:=by omega
   have hlz:(l.length:Int)≤800:=by omega
   by_cases hi:i<s.size
   ·have hiz:(i:Int) < (s.size:Int):=by omega
    have hk:=HX.all i hi;rcases jc hk with⟨hc1,hc2⟩|hc|⟨hc,hcn,hcm⟩|⟨hc,hcn,hcm⟩
    ·have q46:(((s[i]'hi).toNat:Int) ==46)=false:=bf (by omega);have q95:(((s[i]'hi).toNat:Int) ==95)=false:=bf (by omega);clear hk;by_cases h48:((s[i]'hi).toNat:Int)=48
     ·by_cases hn0:l=[]
      ·subst hn0;have g0':wr.cell? ⟨b,800,none⟩=some (.int .i64 0):=g0;have gg1:=gg 801;clear hc1 hc2 q46 q95 g0 gg g3 hlz gl
       as_aux_lemma=>
       go_wp2_with fail;refine⟨⟨i+1,sd,true,[],_,tr,by simp,rfl,rfl,hi,Z (HFr.setIn _ rfl),Z (HDM.setDp _),Z HP.nil⟩,?_⟩;simp only;omega
      ·have hl0:¬l.length=0:=fun e=>hn0 (List.length_eq_zero_iff.1 e)
       have qn0:((l.length:Int) ==0)=false:=bf (by omega);have gg8:=gg 800;by_cases h8:l.length<800
       ·have h8z:(l.length:Int) <800:=by omega
        obtain⟨y,hy⟩:=HDM.any l.length h8;have ggl:=gg l.length;have hp:=HDM.drew.push h8 0 (by decide);rw[show(((48+0:Nat)):Int)=48 from rfl] at hp;rw[show((l.length+1:Nat):Int)=(l.length:Int)+1 from by simp] at hp;have HP2:=Z hp;have HPL2:=Z (HPL.push 0 fun e=>absurd e hn0);clear hc1 hc2 q46 q95 g3 gg gl hl0 hp hn0
        as_aux_lemma=>
        go_wp2_with fail;go_region;go_wp2_with fail;refine⟨⟨i+1,sd,true,_,dp,tr,by simp,rfl,rfl,hi,Z ((HFr.drew.setIn _ rfl).setIn _ rfl),HP2,HPL2⟩,?_⟩;simp only;omega
       ·have h8z:¬ (l.length:Int) <800:=by omega
        clear hc1 hc2 q46 q95 g3 gg gl hl0 hn0
        as_aux_lemma=>
        go_wp2_with fail;refine⟨⟨i+1,sd,true,l,dp,tr,by simp,rfl,rfl,hi,HFr,HDM,HPL⟩,?_⟩;simp only;omega
     ·have q48:(((s[i]'hi).toNat:Int) ==48)=false:=beq_eq_false_iff_ne.2 h48;have q48n:(((s[i]'hi).toNat:Int) !=48)=true:=by simpa using h48
      have gg8:=gg 800;by_cases h8:l.length<800
      ·have h8z:(l.length:Int) <800:=by omega
       obtain⟨y,hy⟩:=HDM.any l.length h8;have ggl:=gg l.length;obtain⟨d,hd⟩:∃d:Nat,(((48+d:Nat)):Int)=((s[i]'hi).toNat:Int):=⟨(s[i]'hi).toNat-48,by omega⟩;have hp:=HDM.drew.push h8 d (by omega);rw[hd] at hp;rw[show((l.length+1:Nat):Int)=(l.length:Int)+1 from by simp] at hp;have HP2:=Z hp;have HPL2:=Z (HPL.push d fun e=>by omega);clear q46 g3 gg gl hp hd h48
       as_aux_lemma=>
       go_wp2_with fail;go_region;go_wp2_with fail;refine⟨⟨i+1,sd,true,_,dp,tr,by simp,rfl,rfl,hi,Z ((HFr.drew.setIn _ rfl).setIn _ rfl),HP2,HPL2⟩,?_⟩;simp only;omega
      ·have h8z:¬ (l.length:Int) <800:=by omega
       have ggt:=gg 803;clear q46 gg gl h48
       as_aux_lemma=>
       go_wp2_with fail;refine⟨⟨i+1,sd,true,l,dp,true,by simp,rfl,rfl,hi,Z (HFr.setIn _ rfl),Z (HDM.setTr true),HPL⟩,?_⟩;simp only;omega
    ·clear hk;have gg1:=gg 801;clear gg g3 gl;cases sd
     ·go_wp2_with fail;refine⟨⟨i+1,true,sg,l,_,tr,by simp,rfl,rfl,hi,Z (HFr.setIn _ rfl),Z (HDM.setDp _),HPL⟩,?_⟩;simp only;omega
     ·go_wp2_with fail;exact qh (results_tmp results178 _ _ _) rfl ⟨_,rfl,HFr,l,dp,tr,HDM,HPL⟩
    ·have q46:(((s[i]'hi).toNat:Int) ==46)=false:=bf (by omega);have q95:(((s[i]'hi).toNat:Int) ==95)=false:=bf (by omega);clear hk gg g0 g1 g3 gl
     as_aux_lemma=>
     go_wp2_with fail;go_meet;exact⟨i,sd,sg,l,dp,tr,rfl,rfl,rfl,hi',HFr,HDM,HPL⟩
    ·have q46:(((s[i]'hi).toNat:Int) ==46)=false:=bf (by omega);have q95:(((s[i]'hi).toNat:Int) ==95)=false:=bf (by omega);clear hk gg g0 g1 g3 gl
     as_aux_lemma=>
     go_wp2_with fail;go_meet;exact⟨i,sd,sg,l,dp,tr,rfl,rfl,rfl,hi',HFr,HDM,HPL⟩
   ·have hiz:¬ (i:Int) < (s.size:Int):=by omega
    clear gg g0 g1 g3 gl
    as_aux_lemma=>
    go_wp2_with fail;go_meet;exact⟨i,sd,sg,l,dp,tr,rfl,rfl,rfl,hi',HFr,HDM,HPL⟩
 case rest=>
  obtain⟨i,sd,sg,l,dp,tr,rfl,rfl,rfl,hi',HFr,HDM,HPL⟩:=hcut;clear hz0 hse HD HF;have hib:(i:Int)≤100000:=by omega
  cases sg
  ·go_wp2_with fail;exact qh (results_tmp results178 _ _ _) rfl ⟨_,rfl,HFr,l,dp,tr,HDM,HPL⟩
  go_step;go_step;go_cut [5] (fun s5 wx=>s5= .int .i64 (i:Int)∧wx=wc)
  case first=>
   as_aux_lemma=>
   go_wp2_with fail;go_meet;exact⟨rfl,rfl⟩
  case rest=>
   obtain⟨rfl,ew⟩:=hcut;subst ew;go_step;go_step;go_cut [5] (fun s5 wx=>s5= .int .i64 (i:Int)∧Hid (Fr (· =b) w wx)∧∃dp':Int,Hid (DM wx b l dp' tr))
   case first=>
    obtain⟨g0,g1,-,-,gg,-,-⟩:=HDM.facts;have gg1:=gg 801;clear gg;cases sd
    ·go_wp2_with fail;go_meet;exact⟨rfl,Z (HFr.setIn _ rfl),_,Z (HDM.setDp _)⟩
    ·go_wp2_with fail;go_meet;exact⟨rfl,HFr,dp,HDM⟩
   case rest=>
    obtain⟨rfl,HFr,dp',HDM⟩:=hcut;go_step;go_step;go_cut [5] (fun s5 wx=>∃i':Nat,s5= .int .i64 (i':Int)∧i'≤s.size∧Hid (Fr (· =b) w wx)∧∃dp':Int,Hid (DM wx b l dp' tr))
    case first=>
     by_cases hi:i<s.size
     ·have hiz:(i:Int) < (s.size:Int):=by omega
      have hk:=HX.all i hi;have hl:=om hk;by_cases hE:(s[i]'hi).toNat=101∨(s[i]'hi).toNat=69
      ·have q101:bits .or .u8 ((s[i]'hi).toNat:Int) 32=101:=by
        rw[hl];rcases hE with h|h<;>simp[h]
       clear hl hk hE;by_cases hi1:i+1<s.size
       ·have hi1z:(i:Int)+1< (s.size:Int):=by omega
        have hi1n:¬ (i:Int)+1≥(s.size:Int):=by omega
        go_upto_block 4 with(go_at_call 157;refine(am _ _).mono ?_;rintro e w' ⟨rfl,rfl⟩);go_cut [5,8] (fun s5 s8 wx=>∃ (i2:Nat) (es:Int),s5= .int .i64 (i2:Int)∧i2≤s.size∧s8= .int .i64 es∧(es=1∨es= -1)∧wx=wc)
        case first=>
         by_cases h43:((s[i+1]'hi1).toNat:Int)=43
         ·go_wp2_with fail;go_meet;exact⟨i+2,1,by simp<;>omega,hi1,rfl,.inl rfl,rfl⟩
         ·have q43:(((s[i+1]'hi1).toNat:Int) ==43)=false:=beq_eq_false_iff_ne.2 h43;clear h43;by_cases h45:((s[i+1]'hi1).toNat:Int)=45
          ·go_wp2_with fail;go_meet;exact⟨i+2,-1,by simp<;>omega,hi1,rfl,.inr rfl,rfl⟩
          ·have q45:(((s[i+1]'hi1).toNat:Int) ==45)=false:=beq_eq_false_iff_ne.2 h45;clear h45
           as_aux_lemma=>
           go_wp2_with fail;go_meet;exact⟨i+1,1,by simp,Nat.le_of_lt hi1,rfl,.inl rfl,rfl⟩
        case rest=>
         obtain⟨i2,es,rfl,hi2',rfl,hes,ew⟩:=hcut;subst ew;have hi2b:(i2:Int)≤100000:=by omega
         clear q101;by_cases hi2:i2<s.size
         ·have hi2z:(i2:Int) < (s.size:Int):=by omega
          have hi2n:¬ (i2:Int)≥(s.size:Int):=by omega
          have hk:=HX.all i2 hi2;rcases em hk with⟨hc1,hc2⟩|⟨hc,hcm⟩|⟨hc,hcm⟩
          ·clear hk;go_upto_block 5 with fail;clear hc1 hc2;go_cut [5,9] (fun s5 s9 wx=>wx=wc∧∃ (i':Nat) (e:Int),s5= .int .i64 (i':Int)∧i'≤s.size∧s9= .int .i64 e∧0≤e∧e≤99999)
           case first=>
            go_wp2_with fail;go_loopw [5,9] (fun s5 s9 wr=>wr=wc∧∃ (i':Nat) (e:Int),s5= .int .i64 (i':Int)∧i'≤s.size∧s9= .int .i64 e∧0≤e∧e≤99999) (fun s5 _ _=>match s5 with| .int _ i=>s.size-i.toNat|_=>0)
            case atStart=>exact⟨rfl,i2,0,rfl,Nat.le_of_lt hi2,rfl,by decide,by decide⟩
            case round=>
             obtain⟨ew,i',e,rfl,hi',rfl,he0,he1⟩:=hrel;subst ew;have hib':(i':Int)≤100000:=by omega
             by_cases hj:i'<s.size
             ·have hjz:(i':Int) < (s.size:Int):=by omega
              have hk:=HX.all i' hj;rcases em hk with⟨hc1,hc2⟩|⟨hc,hcm⟩|⟨hc,hcm⟩
              ·have q95:(((s[i']'hj).toNat:Int) ==95)=false:=bf (by omega);clear hk;by_cases h4:e<10000
               ·have he2:0≤e*10+((s[i']'hj).toNat:Int) -48:=by omega
                have he3:e*10+((s[i']'hj).toNat:Int) -48≤99999:=by omega
                as_aux_lemma=>
                go_wp2_with fail;refine⟨⟨by trivial,i'+1,_,by simp,hj,rfl,he2,he3⟩,?_⟩;simp only;omega
               ·go_wp2_with fail;refine⟨⟨by trivial,i'+1,_,by simp,hj,rfl,he0,he1⟩,?_⟩;simp only;omega
              all_goals
               have q95:(((s[i']'hj).toNat:Int) ==95)=false:=bf (by omega);clear hk
               as_aux_lemma=>
               go_wp2_with fail;go_meet;exact⟨rfl,i',e,rfl,hi',rfl,he0,he1⟩
             ·have hjz:¬ (i':Int) < (s.size:Int):=by omega
              as_aux_lemma=>
              go_wp2_with fail;go_meet;exact⟨rfl,i',e,rfl,hi',rfl,he0,he1⟩
           case rest=>
            obtain⟨ew,i',e,rfl,hi',rfl,he0,he1⟩:=hcut;subst ew;obtain⟨-,g1,-,-,gg,-,-⟩:=HDM.facts;have gg1:=gg 801;clear gg;rcases hes with rfl|rfl
            ·have he0':0≤e*1:=by omega
             have he1':e*1≤99999:=by omega
             as_aux_lemma=>
             go_wp2_with fail;go_meet;exact⟨i',rfl,hi',Z (HFr.setIn _ rfl),_,Z (HDM.setDp _)⟩
            ·have he0': -99999≤e* -1:=by omega
             have he1':e* -1≤0:=by omega
             as_aux_lemma=>
             go_wp2_with fail;go_meet;exact⟨i',rfl,hi',Z (HFr.setIn _ rfl),_,Z (HDM.setDp _)⟩
          all_goals
           clear hk
           as_aux_lemma=>
           go_wp2_with fail;exact qh (results_tmp results178 _ _ _) rfl ⟨_,rfl,HFr,l,_,tr,HDM,HPL⟩
         ·have hi2n:(i2:Int)≥(s.size:Int):=by omega
          have hi2z:¬ (i2:Int) < (s.size:Int):=by omega
          as_aux_lemma=>
          go_wp2_with fail;exact qh (results_tmp results178 _ _ _) rfl ⟨_,rfl,HFr,l,_,tr,HDM,HPL⟩
       ·have hi1n:(i:Int)+1≥(s.size:Int):=by omega
        as_aux_lemma=>
        go_wp2_with (go_at_call 157;refine(am _ _).mono ?_;rintro e w' ⟨rfl,rfl⟩);exact qh (results_tmp results178 _ _ _) rfl ⟨_,rfl,HFr,l,_,tr,HDM,HPL⟩
      ·have q101:(bits .or .u8 ((s[i]'hi).toNat:Int) 32==101)=false:=by
        rw[hl];refine beq_eq_false_iff_ne.2 ?_;split<;>omega
       clear hl hk hE
       as_aux_lemma=>
       go_wp2_with (go_at_call 157;refine(am _ _).mono ?_;rintro e w' ⟨rfl,rfl⟩);go_meet;exact⟨i,rfl,hi',HFr,dp',HDM⟩
     ·have hiz:¬ (i:Int) < (s.size:Int):=by omega
      as_aux_lemma=>
      go_wp2_with fail;go_meet;exact⟨i,rfl,hi',HFr,dp',HDM⟩
    case rest=>
     obtain⟨i',rfl,hi2,HFr,dp2,HDM⟩:=hcut;by_cases he:i'=s.size
     ·have hez:((i':Int) != (s.size:Int))=false:=by simp[he]
      as_aux_lemma=>
      go_wp2_with fail
      all_goals exact qh (results_tmp results178 _ _ _) rfl ⟨_,rfl,HFr,l,dp2,tr,HDM,HPL⟩
     ·have hez:((i':Int) != (s.size:Int))=true:=by simp;omega
      as_aux_lemma=>
      go_wp2_with fail
      all_goals exact qh (results_tmp results178 _ _ _) rfl ⟨_,rfl,HFr,l,dp2,tr,HDM,HPL⟩
end Go.Proofs.YtnclklfhjbkjhaaGreatDoor
