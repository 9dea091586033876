/- Part of the proof: H4. -/
import Derived.Test.YtnclklfhjbkjhaaGreatDoorHa
set_option maxRecDepth 1000000
set_option maxHeartbeats 40000000
set_option linter.unusedSimpArgs false
namespace Go.Proofs.YtnclklfhjbkjhaaGreatDoor
open Tryz
open Go.RowKit
abbrev qH:ByteArray:=⟨#[97,98,102,110,114,116,118,92,39,34,63]⟩
abbrev litT:ByteArray:=⟨#[7,8,12,10,13,9,11,92,39,34,63]⟩
theorem sC:∀k:Fin 11,escT.lookup ((qH[k.1]'k.2).toNat:Int)=some (litT[k.1]'k.2):=by decide
theorem uH:∀k:Fin 11,(litT.extract k.1 (k.1+1)).toList=[litT[k.1]'k.2]:=by
 intro k;rw[qi,ByteArray.data_extract,Array.toList_extract,List.extract_eq_take_drop]
 revert k
 decide
theorem sB{c:Int}(h:∀k:Fin 11,((qH[k.1]'k.2).toNat:Int)≠c):escT.lookup c=none:=by
 have h0:=h 0;have h1:=h 1;have h2:=h 2;have h3:=h 3;have h4:=h 4;have h5:=h 5;have h6:=h 6;have h7:=h 7;have h8:=h 8;have h9:=h 9;have h10:=h 10;simp only[escT,List.lookup];have g0:(c==97)=false:=by simp;exact fun e=>h0 (by rw[e];rfl)
 have g1:(c==98)=false:=by simp;exact fun e=>h1 (by rw[e];rfl)
 have g2:(c==102)=false:=by simp;exact fun e=>h2 (by rw[e];rfl)
 have g3:(c==110)=false:=by simp;exact fun e=>h3 (by rw[e];rfl)
 have g4:(c==114)=false:=by simp;exact fun e=>h4 (by rw[e];rfl)
 have g5:(c==116)=false:=by simp;exact fun e=>h5 (by rw[e];rfl)
 have g6:(c==118)=false:=by simp;exact fun e=>h6 (by rw[e];rfl)
 have g7:(c==92)=false:=by simp;exact fun e=>h7 (by rw[e];rfl)
 have g8:(c==39)=false:=by simp;exact fun e=>h8 (by rw[e];rfl)
 have g9:(c==34)=false:=by simp;exact fun e=>h9 (by rw[e];rfl)
 have g10:(c==63)=false:=by simp;exact fun e=>h10 (by rw[e];rfl)
 simp only[g0,g1,g2,g3,g4,g5,g6,g7,g8,g9,g10]
theorem sZ{s:ByteArray}{b:UInt8}(hp:0<s.size)(h:escT.lookup (bz s 0)=some b):gR (tx s 0)=some ([b],1):=by
 rw[aL hp];unfold gR;simp only[h]
theorem du(w:World)(l:List Int)(h:∀x∈l,0≤x∧x<256):(convert 117 9 (.slice (some ⟨w.heap.size,0,none⟩) l.length l.length)).run prog (w.alloc (.cells (l.map (Value.int .u8)).toArray 5))= .ok (.string ⟨(l.map fun x=>UInt8.ofNat x.toNat).toArray⟩) (w.alloc (.cells (l.map (Value.int .u8)).toArray 5)):=by
 have hc:=run_convert_bytes_back (P:=prog) (w.alloc (.cells (l.map (Value.int .u8)).toArray 5)) 117 9 5 ⟨w.heap.size,0,none⟩ l.length (l.map fun x=>UInt8.ofNat x.toNat) (by kernel_rfl) (by kernel_rfl) (by kernel_rfl) (by
  intro j hj;rw[cF,ab (ql w _)];have hj':j<l.length:=by simpa using hj
  have:=h l[j] (List.getElem_mem _);simp[hj'];omega)
 simpa using hc
theorem dK(x:Int)(h0:0≤x)(h1:x<256)(w:World):(convert 117 9 (.slice (some ⟨w.heap.size,0,none⟩) 1 1)).run prog (w.alloc (.cells #[.int .u8 x] 5))= .ok (.string ⟨#[UInt8.ofNat x.toNat]⟩) (w.alloc (.cells #[.int .u8 x] 5)):=du w [x] (by simp;omega)
theorem zd{c:Int}:eU c=true↔dg c<16:=dg_H.symm
theorem fA{s:ByteArray}{n N:Nat}(hl:escT.lookup (bz s 0)=none)(h0:bz s 0=120∨bz s 0=88)(h1:1<n)(h3:n≤3)(hn:n≤s.size)(hall:∀x,1≤x→x<n→dg (bz s x) <16)(hend:n<3→n<s.size→¬dg (bz s n) <16∧¬ (bz s n=43∨bz s n=45))(hN:bA 16 (fG (sg s 1 n))=some N):
  gR (tx s 0)=some ([UInt8.ofNat N],n):=by
 rw[aL (show 0<s.size by omega),aL (show 0+1<s.size by omega)];simp only[Nat.zero_add];have e1:eU (bz s 1)=true:=dg_H.1 (hall 1 (by omega) h1);have hs1:sg s 1 n=bz s 1::sg s 2 n:=eh h1 hn;unfold gR;simp only[hl];rw[if_pos h0];simp only[if_pos e1];by_cases h2:2<s.size
 ·rw[aL (show 1+1<s.size from h2)];simp only;by_cases h23:n=3
  ·subst h23;have e2:eU (bz s 2)=true:=dg_H.1 (hall 2 (by omega) (by omega));have hs2:sg s 2 3=[bz s 2]:=by rw[eh (by omega) hn,eH]
   rw[hs2] at hs1;rw[hs1] at hN;rw[if_pos e2,hN];rfl
  ·have hn2:n=2:=by omega
   subst hn2;have e2:=hend (by omega) h2;have e3:¬eU (bz s 2)=true:=fun e=>e2.1 (dg_H.2 e)
   rw[hs1,eH] at hN;rw[if_neg e3,if_neg e2.2,hN];rfl
 ·have hn2:n=2:=by omega
  subst hn2;have:tx s (1+1)=[]:=List.eq_nil_of_length_eq_zero (by rw[ec];omega);rw[this];simp only;rw[hs1,eH] at hN;rw[hN];rfl
theorem l_{s:ByteArray}{n N:Nat}(hl:escT.lookup (bz s 0)=none)(h0:¬ (bz s 0=120∨bz s 0=88))(hu:bz s 0≠117∧bz s 0≠85)(h1:0<n)(h3:n≤3)(hn:n≤s.size)(hall:∀x,x<n→dg (bz s x) <8)(hend:n<3→n<s.size→¬dg (bz s n) <8)(hN:bA 8 (fG (sg s 0 n))=some N)(hv:¬N>255):
  gR (tx s 0)=some ([UInt8.ofNat N],n):=by
 have e0:dE (bz s 0)=true:=dg_O.1 (hall 0 h1);have hs0:sg s 0 n=bz s 0::sg s 1 n:=eh h1 hn;rw[aL (show 0<s.size by omega)];unfold gR;simp only[hl];rw[if_neg h0,if_neg hu.1,if_neg hu.2,if_pos e0];simp only[Nat.zero_add];by_cases h2:1<s.size
 ·rw[aL h2];simp only;by_cases hn1:n=1
  ·subst hn1;have e1:¬dE (bz s 1)=true:=fun e=>hend (by omega) h2 (dg_O.2 e)
   rw[hs0,eH] at hN;rw[if_neg e1,hN];simp[hv]
  ·have hs1:sg s 1 n=bz s 1::sg s 2 n:=eh (by omega) hn;have e1:dE (bz s 1)=true:=dg_O.1 (hall 1 (by omega));rw[if_pos e1];rw[hs0,hs1] at hN;by_cases h22:2<s.size
   ·rw[aL (show 1+1<s.size from h22)];simp only;by_cases hn2:n=2
    ·subst hn2;have e2:¬dE (bz s 2)=true:=fun e=>hend (by omega) h22 (dg_O.2 e)
     rw[eH] at hN;rw[if_neg e2,hN];simp[hv]
    ·have hn3:n=3:=by omega
     subst hn3;have e2:dE (bz s 2)=true:=dg_O.1 (hall 2 (by omega));have hs2:sg s 2 3=[bz s 2]:=by rw[eh (by omega) hn,eH]
     rw[hs2] at hN;rw[if_pos e2,hN];simp[hv]
   ·have hn2:n=2:=by omega
    subst hn2;have:tx s (1+1)=[]:=List.eq_nil_of_length_eq_zero (by rw[ec];omega);rw[this];simp only;rw[eH] at hN;rw[hN];simp[hv]
 ·have hn1:n=1:=by omega
  subst hn1;have:tx s 1=[]:=List.eq_nil_of_length_eq_zero (by rw[ec];omega);rw[this];simp only;rw[hs0,eH] at hN;rw[hN];simp[hv]
theorem oA(w0:World)(s:ByteArray)(hs:s.size≤100000)(w:World)(hk:Keep w0 w)
  (hpu:∀ (d:ByteArray) (b:Nat) (w':World),Keep w0 w'→(b=8∨b=10∨b=16)→d.size≤100000→cz b d=true→Calls prog 107 #[.string d,.int .i64 b,.int .i64 64] w' (dO d b w'))
  (hpt:∀w',Keep w0 w'→0<s.size→(bz s 0=117∨bz s 0=85)→escT.lookup (bz s 0)=none→Calls prog 111 #[.string s] w' (fF s w')):
  Calls prog 78 #[.string s] w (fF s w):=by
 have HK:=Z hk;have HPU8:=Z fun(d:ByteArray) (w':World) (h:Keep w0 w') (h1:d.size≤100000) (h2:cz 8 d=true)=>hpu d 8 w' h (.inl rfl) h1 h2
 have HPU16:=Z fun(d:ByteArray) (w':World) (h:Keep w0 w') (h1:d.size≤100000) (h2:cz 16 d=true)=>hpu d 16 w' h (.inr (.inr rfl)) h1 h2
 have HPT:=Z hpt;clear hk hpu hpt;by_cases h0:s.size=0
 ·have hz:((s.size:Int) ==0)=true:=by simp[h0]
  go_enter func78,ntmps78;go_wp2_with fail;go_ret3;exact⟨⟨#[]⟩,0,1,rfl,Nat.zero_le _,Nat.zero_le _,fun e=>absurd e (by decide),Fr.refl w⟩
 ·have hz:((s.size:Int) ==0)=false:=bf (by omega);have hp:0<s.size:=by omega
  have hpz:(0:Int) < (s.size:Int):=by omega
  have HB0:=Z (aq hp);clear h0;go_enter func78,ntmps78;go_wp2_with fail;go_loopw [19] (fun u wr=>∃k:Nat,u= .int .i64 k∧Hid (k≤11∧(∀j:Fin 11,j.1<k→((qH[j.1]'j.2).toNat:Int)≠bz s 0)∧Keep w wr)) (fun u _=>11-br u)
  case atStart=>exact⟨0,rfl,Z ⟨by decide,fun j hj=>by omega,Fr.refl w⟩⟩
  case round=>
   obtain⟨k,rfl,HR⟩:=hrel;by_cases hk:k<11
   ·have hkz:(k:Int) <11:=by omega
    have hk0:(0:Int)≤(k:Int):=by omega
    have hk1:(k:Int)+1≤11:=by omega
    have hkn:((k:Int)+1).toNat=k+1:=by omega
    by_cases he:((s[0]'hp).toNat:Int)=((qH[k]'hk).toNat:Int)
    ·have q:(((s[0]'hp).toNat:Int) == ((qH[k]'hk).toNat:Int))=true:=by simpa using he
     have HE:=Z he;clear he;go_wp2_with fail;go_quiet (fail);go_wp2_with fail;go_ret3;refine⟨litT.extract k (k+1),1,0,rfl,hp,by rw[qo];omega,fun _=>⟨by rw[qo];omega,?_⟩,HR.2.2.drewNf _⟩;rw[uH ⟨k,hk⟩];exact sZ hp (by rw[HB0.out,HE.out];exact sC ⟨k,hk⟩)
    ·have q:(((s[0]'hp).toNat:Int) == ((qH[k]'hk).toNat:Int))=false:=by simpa using he
     have HE:=Z he;clear he;go_wp2_with fail;go_quiet (fail);go_wp2_with fail;go_roundw
     case rel=>exact⟨k+1,by simp,Z ⟨hk,fun j hj=>by
      rcases Nat.lt_or_ge j.1 k with g|g
      ·exact HR.2.1 j g
      ·have hjk:j=⟨k,hk⟩:=Fin.ext (by simp;omega);subst hjk;rw[HB0.out];exact fun e=>HE e.symm,HR.2.2.drewNf _⟩⟩
     case measure=>simp only[br];omega
   ·have hkz:¬ (k:Int) <11:=by omega
    have hk11:k=11:=by have:=HR.1;omega
    have HN:=Z (sB (c:=bz s 0) fun j=>HR.2.1 j (by omega));have HKR:=Z HR.2.2;clear hk11;by_cases h120:((s[0]'hp).toNat:Int)=120
    ·have q120:(((s[0]'hp).toNat:Int) ==120)=true:=by rw[h120];rfl
     have HC:Hid (bz s 0=120∨bz s 0=88):=Z (.inl (by rw[HB0.out];exact h120));clear h120;go_wp2_with fail;go_loopw [8] (fun u wr=>∃n:Nat,u= .int .i64 n∧Hid ((1≤n∧n≤3)∧n≤s.size∧(∀x,1≤x→x<n→dg (bz s x) <16)∧Keep w wr)) (fun u _=>3-br u)
     case atStart=>exact⟨1,rfl,Z ⟨by decide,hp,fun x h1 h2=>by omega,HKR⟩⟩
     case round=>
      obtain⟨n,rfl,HN1⟩:=hrel;have hn0:(0:Int)≤(n:Int):=by omega
      have hn1:(1:Int)≤(n:Int):=by have:=HN1.1.1;omega
      by_cases h3:n<3
      ·have h3z:(n:Int) <3:=by omega
       by_cases hm:n<s.size
       ·have hmz:(n:Int) < (s.size:Int):=by omega
        have hm1:(n:Int)+1≤(s.size:Int):=by omega
        have hnn:((n:Int)+1).toNat=n+1:=by omega
        have HBN:=Z (aq hm);have HAO:=Z (mi (b:=16) hm);by_cases hd:dg (bz s n) <16
        ·have HD:=Z hd;clear hd;go_wp2_with (go_at_call 106;refine(aJ _ 16 _ (by rw[qo];omega)).mono ?_;rintro e w' ⟨rfl,rfl⟩;rw[HAO.out,decide_eq_true HD.out]);go_roundw
         case rel=>exact⟨n+1,by simp,Z ⟨by omega,hm,fun x h1 h2=>by
          rcases Nat.lt_or_ge x n with g|g
          ·exact HN1.2.2.1 x h1 g
          ·rw[show x=n from by omega];exact HD.out,HN1.2.2.2⟩⟩
         case measure=>simp only[br];omega
        ·have HD:=Z hd;clear hd;by_cases h43:((s[n]'hm).toNat:Int)=43
         ·have q43:(((s[n]'hm).toNat:Int) ==43)=true:=by rw[h43];rfl
          clear h43;go_wp2_with (go_at_call 106;refine(aJ _ 16 _ (by rw[qo];omega)).mono ?_;rintro e w' ⟨rfl,rfl⟩;rw[HAO.out,decide_eq_false HD.out]);go_ret3;exact⟨⟨#[]⟩,0,2,rfl,Nat.zero_le _,Nat.zero_le _,fun e=>absurd e (by decide),HN1.2.2.2⟩
         ·have q43:(((s[n]'hm).toNat:Int) ==43)=false:=by simpa using h43
          by_cases h45:((s[n]'hm).toNat:Int)=45
          ·have q45:(((s[n]'hm).toNat:Int) ==45)=true:=by rw[h45];rfl
           clear h43 h45;go_wp2_with (go_at_call 106;refine(aJ _ 16 _ (by rw[qo];omega)).mono ?_;rintro e w' ⟨rfl,rfl⟩;rw[HAO.out,decide_eq_false HD.out]);go_ret3;exact⟨⟨#[]⟩,0,2,rfl,Nat.zero_le _,Nat.zero_le _,fun e=>absurd e (by decide),HN1.2.2.2⟩
          ·have q45:(((s[n]'hm).toNat:Int) ==45)=false:=by simpa using h45
           have HSG:Hid (¬ (bz s n=43∨bz s n=45)):=Z (by rw[HBN.out];omega);clear h43 h45;by_cases hn1e:n=1
           ·have qn:((n:Int) ==1)=true:=by rw[hn1e];rfl
            clear hn1e;go_wp2_with (go_at_call 106;refine(aJ _ 16 _ (by rw[qo];omega)).mono ?_;rintro e w' ⟨rfl,rfl⟩;rw[HAO.out,decide_eq_false HD.out]);go_ret3;exact⟨⟨#[]⟩,0,1,rfl,Nat.zero_le _,Nat.zero_le _,fun e=>absurd e (by decide),HN1.2.2.2⟩
           ·have qn:((n:Int) ==1)=false:=bf (by omega);have hnz:(n:Int)≤(s.size:Int):=by have:=HN1.2.1;omega
            have hxs:(s.extract 1 n).size=n-1:=by rw[qo];have:=HN1.2.1;omega
            have HXS:=Z hxs;clear hxs;obtain⟨N,hN1,hN2⟩:=bN (b:=16) (l:=sg s 1 n) (by decide) (by intro e;have h1:=bw (s:=s) (i:=1) HN1.2.1;rw[e] at h1;simp at h1;omega) (fun c hc=>by
             obtain⟨x,x1,x2,rfl⟩:=cJ HN1.2.1 hc;exact⟨(eE s x).1,HN1.2.2.1 x x1 x2⟩)
            rw[bw HN1.2.1] at hN2;have HN2:=Z hN1;have hN3:N<256:=by
             have hle:n-1≤2:=by have:=HN1.1;omega
             exact Nat.lt_of_lt_of_le hN2 (Nat.le_trans (Nat.pow_le_pow_right (by decide) hle) (by decide))
            clear hN1 hN2;have hNz:(N:Int) <256:=by omega
            have hNz0:(0:Int)≤(N:Int):=by omega
            have hNm:(N:Int) %256=(N:Int):=Int.emod_eq_of_lt hNz0 hNz;have hcv:=dK (N:Int) hNz0 hNz;go_wp2_with (first|(go_at_call 106;refine(aJ _ 16 _ (by rw[qo];omega)).mono ?_;rintro e w' ⟨rfl,rfl⟩;rw[HAO.out,decide_eq_false HD.out])|(go_at_call 107;refine(HPU16.out (s.extract 1 n) wr (HK.trans HN1.2.2.2) (by rw[HXS.out];have:=HN1.2.1;omega) (eA (by have:=HN1.1;omega) HN1.2.1 HN1.2.2.1)).mono ?_;rintro e w2 ⟨v,ev,rfl,kk,hev,hv0,hv1,hNN⟩;obtain⟨rfl,rfl⟩:=hNN N (by rw[bL];exact HN2.out) (by omega);have KK:=Z kk;clear kk hev hNN;refine Hid.out ?_));refine Z ?_;go_wp2_with fail;go_ret3;exact⟨⟨#[UInt8.ofNat N]⟩,n,0,rfl,HN1.2.1,by show 1≤8;decide,fun _=>⟨by show 1≤n;omega,by rw[qp];exact fA HN.out HC.out (by have:=HN1.1;omega) HN1.1.2 HN1.2.1 HN1.2.2.1 (fun _ _=>⟨by have:=HD.out;omega,HSG.out⟩) HN2.out⟩,HN1.2.2.2.trans (KK.alloc _)⟩
       ·have hmz:¬ (n:Int) < (s.size:Int):=by omega
        by_cases hn1e:n=1
        ·have qn:((n:Int) ==1)=true:=by rw[hn1e];rfl
         clear hn1e;go_wp2_with fail;go_ret3;exact⟨⟨#[]⟩,0,1,rfl,Nat.zero_le _,Nat.zero_le _,fun e=>absurd e (by decide),HN1.2.2.2⟩
        ·have qn:((n:Int) ==1)=false:=bf (by omega);have hnz:(n:Int)≤(s.size:Int):=by have:=HN1.2.1;omega
         have hxs:(s.extract 1 n).size=n-1:=by rw[qo];have:=HN1.2.1;omega
         have HXS:=Z hxs;clear hxs;obtain⟨N,hN1,hN2⟩:=bN (b:=16) (l:=sg s 1 n) (by decide) (by intro e;have h1:=bw (s:=s) (i:=1) HN1.2.1;rw[e] at h1;simp at h1;omega) (fun c hc=>by
          obtain⟨x,x1,x2,rfl⟩:=cJ HN1.2.1 hc;exact⟨(eE s x).1,HN1.2.2.1 x x1 x2⟩)
         rw[bw HN1.2.1] at hN2;have HN2:=Z hN1;have hN3:N<256:=by
          have hle:n-1≤2:=by have:=HN1.1;omega
          exact Nat.lt_of_lt_of_le hN2 (Nat.le_trans (Nat.pow_le_pow_right (by decide) hle) (by decide))
         clear hN1 hN2;have hNz:(N:Int) <256:=by omega
         have hNz0:(0:Int)≤(N:Int):=by omega
         have hNm:(N:Int) %256=(N:Int):=Int.emod_eq_of_lt hNz0 hNz;have hcv:=dK (N:Int) hNz0 hNz;go_wp2_with (go_at_call 107;refine(HPU16.out (s.extract 1 n) wr (HK.trans HN1.2.2.2) (by rw[HXS.out];have:=HN1.2.1;omega) (eA (by have:=HN1.1;omega) HN1.2.1 HN1.2.2.1)).mono ?_;rintro e w2 ⟨v,ev,rfl,kk,hev,hv0,hv1,hNN⟩;obtain⟨rfl,rfl⟩:=hNN N (by rw[bL];exact HN2.out) (by omega);have KK:=Z kk;clear kk hev hNN;refine Hid.out ?_);refine Z ?_;go_wp2_with fail;go_ret3;exact⟨⟨#[UInt8.ofNat N]⟩,n,0,rfl,HN1.2.1,by show 1≤8;decide,fun _=>⟨by show 1≤n;omega,by rw[qp];exact fA HN.out HC.out (by have:=HN1.1;omega) HN1.1.2 HN1.2.1 HN1.2.2.1 (fun _ h=>absurd h hm) HN2.out⟩,HN1.2.2.2.trans (KK.alloc _)⟩
      ·have h3z:¬ (n:Int) <3:=by omega
       have qn:((n:Int) ==1)=false:=bf (by omega);have hnz:(n:Int)≤(s.size:Int):=by have:=HN1.2.1;omega
       have hxs:(s.extract 1 n).size=n-1:=by rw[qo];have:=HN1.2.1;omega
       have HXS:=Z hxs;clear hxs;obtain⟨N,hN1,hN2⟩:=bN (b:=16) (l:=sg s 1 n) (by decide) (by intro e;have h1:=bw (s:=s) (i:=1) HN1.2.1;rw[e] at h1;simp at h1;omega) (fun c hc=>by
        obtain⟨x,x1,x2,rfl⟩:=cJ HN1.2.1 hc;exact⟨(eE s x).1,HN1.2.2.1 x x1 x2⟩)
       rw[bw HN1.2.1] at hN2;have HN2:=Z hN1;have hN3:N<256:=by
        have hle:n-1≤2:=by have:=HN1.1;omega
        exact Nat.lt_of_lt_of_le hN2 (Nat.le_trans (Nat.pow_le_pow_right (by decide) hle) (by decide))
       clear hN1 hN2;have hNz:(N:Int) <256:=by omega
       have hNz0:(0:Int)≤(N:Int):=by omega
       have hNm:(N:Int) %256=(N:Int):=Int.emod_eq_of_lt hNz0 hNz;have hcv:=dK (N:Int) hNz0 hNz;go_wp2_with (go_at_call 107;refine(HPU16.out (s.extract 1 n) wr (HK.trans HN1.2.2.2) (by rw[HXS.out];have:=HN1.2.1;omega) (eA (by have:=HN1.1;omega) HN1.2.1 HN1.2.2.1)).mono ?_;rintro e w2 ⟨v,ev,rfl,kk,hev,hv0,hv1,hNN⟩;obtain⟨rfl,rfl⟩:=hNN N (by rw[bL];exact HN2.out) (by omega);have KK:=Z kk;clear kk hev hNN;refine Hid.out ?_);refine Z ?_;go_wp2_with fail;go_ret3;exact⟨⟨#[UInt8.ofNat N]⟩,n,0,rfl,HN1.2.1,by show 1≤8;decide,fun _=>⟨by show 1≤n;omega,by rw[qp];exact fA HN.out HC.out (by have:=HN1.1;omega) HN1.1.2 HN1.2.1 HN1.2.2.1 (fun h _=>absurd h h3) HN2.out⟩,HN1.2.2.2.trans (KK.alloc _)⟩
    have q120:(((s[0]'hp).toNat:Int) ==120)=false:=by simpa using h120
    by_cases h88:((s[0]'hp).toNat:Int)=88
    ·have q88:(((s[0]'hp).toNat:Int) ==88)=true:=by rw[h88];rfl
     have HC:Hid (bz s 0=120∨bz s 0=88):=Z (.inr (by rw[HB0.out];exact h88));clear h88 h120;go_wp2_with fail;go_loopw [8] (fun u wr=>∃n:Nat,u= .int .i64 n∧Hid ((1≤n∧n≤3)∧n≤s.size∧(∀x,1≤x→x<n→dg (bz s x) <16)∧Keep w wr)) (fun u _=>3-br u)
     case atStart=>exact⟨1,rfl,Z ⟨by decide,hp,fun x h1 h2=>by omega,HKR⟩⟩
     case round=>
      obtain⟨n,rfl,HN1⟩:=hrel;have hn0:(0:Int)≤(n:Int):=by omega
      have hn1:(1:Int)≤(n:Int):=by have:=HN1.1.1;omega
      by_cases h3:n<3
      ·have h3z:(n:Int) <3:=by omega
       by_cases hm:n<s.size
       ·have hmz:(n:Int) < (s.size:Int):=by omega
        have hm1:(n:Int)+1≤(s.size:Int):=by omega
        have hnn:((n:Int)+1).toNat=n+1:=by omega
        have HBN:=Z (aq hm);have HAO:=Z (mi (b:=16) hm);by_cases hd:dg (bz s n) <16
        ·have HD:=Z hd;clear hd;go_wp2_with (go_at_call 106;refine(aJ _ 16 _ (by rw[qo];omega)).mono ?_;rintro e w' ⟨rfl,rfl⟩;rw[HAO.out,decide_eq_true HD.out]);go_roundw
         case rel=>exact⟨n+1,by simp,Z ⟨by omega,hm,fun x h1 h2=>by
          rcases Nat.lt_or_ge x n with g|g
          ·exact HN1.2.2.1 x h1 g
          ·rw[show x=n from by omega];exact HD.out,HN1.2.2.2⟩⟩
         case measure=>simp only[br];omega
        ·have HD:=Z hd;clear hd;by_cases h43:((s[n]'hm).toNat:Int)=43
         ·have q43:(((s[n]'hm).toNat:Int) ==43)=true:=by rw[h43];rfl
          clear h43;go_wp2_with (go_at_call 106;refine(aJ _ 16 _ (by rw[qo];omega)).mono ?_;rintro e w' ⟨rfl,rfl⟩;rw[HAO.out,decide_eq_false HD.out]);go_ret3;exact⟨⟨#[]⟩,0,2,rfl,Nat.zero_le _,Nat.zero_le _,fun e=>absurd e (by decide),HN1.2.2.2⟩
         ·have q43:(((s[n]'hm).toNat:Int) ==43)=false:=by simpa using h43
          by_cases h45:((s[n]'hm).toNat:Int)=45
          ·have q45:(((s[n]'hm).toNat:Int) ==45)=true:=by rw[h45];rfl
           clear h43 h45;go_wp2_with (go_at_call 106;refine(aJ _ 16 _ (by rw[qo];omega)).mono ?_;rintro e w' ⟨rfl,rfl⟩;rw[HAO.out,decide_eq_false HD.out]);go_ret3;exact⟨⟨#[]⟩,0,2,rfl,Nat.zero_le _,Nat.zero_le _,fun e=>absurd e (by decide),HN1.2.2.2⟩
          ·have q45:(((s[n]'hm).toNat:Int) ==45)=false:=by simpa using h45
           have HSG:Hid (¬ (bz s n=43∨bz s n=45)):=Z (by rw[HBN.out];omega);clear h43 h45;by_cases hn1e:n=1
           ·have qn:((n:Int) ==1)=true:=by rw[hn1e];rfl
            clear hn1e;go_wp2_with (go_at_call 106;refine(aJ _ 16 _ (by rw[qo];omega)).mono ?_;rintro e w' ⟨rfl,rfl⟩;rw[HAO.out,decide_eq_false HD.out]);go_ret3;exact⟨⟨#[]⟩,0,1,rfl,Nat.zero_le _,Nat.zero_le _,fun e=>absurd e (by decide),HN1.2.2.2⟩
           ·have qn:((n:Int) ==1)=false:=bf (by omega);have hnz:(n:Int)≤(s.size:Int):=by have:=HN1.2.1;omega
            have hxs:(s.extract 1 n).size=n-1:=by rw[qo];have:=HN1.2.1;omega
            have HXS:=Z hxs;clear hxs;obtain⟨N,hN1,hN2⟩:=bN (b:=16) (l:=sg s 1 n) (by decide) (by intro e;have h1:=bw (s:=s) (i:=1) HN1.2.1;rw[e] at h1;simp at h1;omega) (fun c hc=>by
             obtain⟨x,x1,x2,rfl⟩:=cJ HN1.2.1 hc;exact⟨(eE s x).1,HN1.2.2.1 x x1 x2⟩)
            rw[bw HN1.2.1] at hN2;have HN2:=Z hN1;have hN3:N<256:=by
             have hle:n-1≤2:=by have:=HN1.1;omega
             exact Nat.lt_of_lt_of_le hN2 (Nat.le_trans (Nat.pow_le_pow_right (by decide) hle) (by decide))
            clear hN1 hN2;have hNz:(N:Int) <256:=by omega
            have hNz0:(0:Int)≤(N:Int):=by omega
            have hNm:(N:Int) %256=(N:Int):=Int.emod_eq_of_lt hNz0 hNz;have hcv:=dK (N:Int) hNz0 hNz;go_wp2_with (first|(go_at_call 106;refine(aJ _ 16 _ (by rw[qo];omega)).mono ?_;rintro e w' ⟨rfl,rfl⟩;rw[HAO.out,decide_eq_false HD.out])|(go_at_call 107;refine(HPU16.out (s.extract 1 n) wr (HK.trans HN1.2.2.2) (by rw[HXS.out];have:=HN1.2.1;omega) (eA (by have:=HN1.1;omega) HN1.2.1 HN1.2.2.1)).mono ?_;rintro e w2 ⟨v,ev,rfl,kk,hev,hv0,hv1,hNN⟩;obtain⟨rfl,rfl⟩:=hNN N (by rw[bL];exact HN2.out) (by omega);have KK:=Z kk;clear kk hev hNN;refine Hid.out ?_));refine Z ?_;go_wp2_with fail;go_ret3;exact⟨⟨#[UInt8.ofNat N]⟩,n,0,rfl,HN1.2.1,by show 1≤8;decide,fun _=>⟨by show 1≤n;omega,by rw[qp];exact fA HN.out HC.out (by have:=HN1.1;omega) HN1.1.2 HN1.2.1 HN1.2.2.1 (fun _ _=>⟨by have:=HD.out;omega,HSG.out⟩) HN2.out⟩,HN1.2.2.2.trans (KK.alloc _)⟩
       ·have hmz:¬ (n:Int) < (s.size:Int):=by omega
        by_cases hn1e:n=1
        ·have qn:((n:Int) ==1)=true:=by rw[hn1e];rfl
         clear hn1e;go_wp2_with fail;go_ret3;exact⟨⟨#[]⟩,0,1,rfl,Nat.zero_le _,Nat.zero_le _,fun e=>absurd e (by decide),HN1.2.2.2⟩
        ·have qn:((n:Int) ==1)=false:=bf (by omega);have hnz:(n:Int)≤(s.size:Int):=by have:=HN1.2.1;omega
         have hxs:(s.extract 1 n).size=n-1:=by rw[qo];have:=HN1.2.1;omega
         have HXS:=Z hxs;clear hxs;obtain⟨N,hN1,hN2⟩:=bN (b:=16) (l:=sg s 1 n) (by decide) (by intro e;have h1:=bw (s:=s) (i:=1) HN1.2.1;rw[e] at h1;simp at h1;omega) (fun c hc=>by
          obtain⟨x,x1,x2,rfl⟩:=cJ HN1.2.1 hc;exact⟨(eE s x).1,HN1.2.2.1 x x1 x2⟩)
         rw[bw HN1.2.1] at hN2;have HN2:=Z hN1;have hN3:N<256:=by
          have hle:n-1≤2:=by have:=HN1.1;omega
          exact Nat.lt_of_lt_of_le hN2 (Nat.le_trans (Nat.pow_le_pow_right (by decide) hle) (by decide))
         clear hN1 hN2;have hNz:(N:Int) <256:=by omega
         have hNz0:(0:Int)≤(N:Int):=by omega
         have hNm:(N:Int) %256=(N:Int):=Int.emod_eq_of_lt hNz0 hNz;have hcv:=dK (N:Int) hNz0 hNz;go_wp2_with (go_at_call 107;refine(HPU16.out (s.extract 1 n) wr (HK.trans HN1.2.2.2) (by rw[HXS.out];have:=HN1.2.1;omega) (eA (by have:=HN1.1;omega) HN1.2.1 HN1.2.2.1)).mono ?_;rintro e w2 ⟨v,ev,rfl,kk,hev,hv0,hv1,hNN⟩;obtain⟨rfl,rfl⟩:=hNN N (by rw[bL];exact HN2.out) (by omega);have KK:=Z kk;clear kk hev hNN;refine Hid.out ?_);refine Z ?_;go_wp2_with fail;go_ret3;exact⟨⟨#[UInt8.ofNat N]⟩,n,0,rfl,HN1.2.1,by show 1≤8;decide,fun _=>⟨by show 1≤n;omega,by rw[qp];exact fA HN.out HC.out (by have:=HN1.1;omega) HN1.1.2 HN1.2.1 HN1.2.2.1 (fun _ h=>absurd h hm) HN2.out⟩,HN1.2.2.2.trans (KK.alloc _)⟩
      ·have h3z:¬ (n:Int) <3:=by omega
       have qn:((n:Int) ==1)=false:=bf (by omega);have hnz:(n:Int)≤(s.size:Int):=by have:=HN1.2.1;omega
       have hxs:(s.extract 1 n).size=n-1:=by rw[qo];have:=HN1.2.1;omega
       have HXS:=Z hxs;clear hxs;obtain⟨N,hN1,hN2⟩:=bN (b:=16) (l:=sg s 1 n) (by decide) (by intro e;have h1:=bw (s:=s) (i:=1) HN1.2.1;rw[e] at h1;simp at h1;omega) (fun c hc=>by
        obtain⟨x,x1,x2,rfl⟩:=cJ HN1.2.1 hc;exact⟨(eE s x).1,HN1.2.2.1 x x1 x2⟩)
       rw[bw HN1.2.1] at hN2;have HN2:=Z hN1;have hN3:N<256:=by
        have hle:n-1≤2:=by have:=HN1.1;omega
        exact Nat.lt_of_lt_of_le hN2 (Nat.le_trans (Nat.pow_le_pow_right (by decide) hle) (by decide))
       clear hN1 hN2;have hNz:(N:Int) <256:=by omega
       have hNz0:(0:Int)≤(N:Int):=by omega
       have hNm:(N:Int) %256=(N:Int):=Int.emod_eq_of_lt hNz0 hNz;have hcv:=dK (N:Int) hNz0 hNz;go_wp2_with (go_at_call 107;refine(HPU16.out (s.extract 1 n) wr (HK.trans HN1.2.2.2) (by rw[HXS.out];have:=HN1.2.1;omega) (eA (by have:=HN1.1;omega) HN1.2.1 HN1.2.2.1)).mono ?_;rintro e w2 ⟨v,ev,rfl,kk,hev,hv0,hv1,hNN⟩;obtain⟨rfl,rfl⟩:=hNN N (by rw[bL];exact HN2.out) (by omega);have KK:=Z kk;clear kk hev hNN;refine Hid.out ?_);refine Z ?_;go_wp2_with fail;go_ret3;exact⟨⟨#[UInt8.ofNat N]⟩,n,0,rfl,HN1.2.1,by show 1≤8;decide,fun _=>⟨by show 1≤n;omega,by rw[qp];exact fA HN.out HC.out (by have:=HN1.1;omega) HN1.1.2 HN1.2.1 HN1.2.2.1 (fun h _=>absurd h h3) HN2.out⟩,HN1.2.2.2.trans (KK.alloc _)⟩
    have q88:(((s[0]'hp).toNat:Int) ==88)=false:=by simpa using h88
    have HX:Hid (¬ (bz s 0=120∨bz s 0=88)):=Z (by rw[HB0.out];omega);clear h120 h88;by_cases h117:((s[0]'hp).toNat:Int)=117
    ·have q117:(((s[0]'hp).toNat:Int) ==117)=true:=by rw[h117];rfl
     have HU:Hid (bz s 0=117∨bz s 0=85):=Z (.inl (by rw[HB0.out];exact h117));clear h117;go_wp2_with (go_at_call 111;refine(HPT wr (HK.trans HKR) hp HU HN).mono ?_;rintro e w2 ⟨v,k2,how,rfl,h1,h2,h3,kk⟩);go_ret3;exact⟨v,k2,how,rfl,h1,h2,h3,HKR.trans kk⟩
    have q117:(((s[0]'hp).toNat:Int) ==117)=false:=by simpa using h117
    by_cases h85:((s[0]'hp).toNat:Int)=85
    ·have q85:(((s[0]'hp).toNat:Int) ==85)=true:=by rw[h85];rfl
     have HU:Hid (bz s 0=117∨bz s 0=85):=Z (.inr (by rw[HB0.out];exact h85));clear h85 h117;go_wp2_with (go_at_call 111;refine(HPT wr (HK.trans HKR) hp HU HN).mono ?_;rintro e w2 ⟨v,k2,how,rfl,h1,h2,h3,kk⟩);go_ret3;exact⟨v,k2,how,rfl,h1,h2,h3,HKR.trans kk⟩
    have q85:(((s[0]'hp).toNat:Int) ==85)=false:=by simpa using h85
    have HU:Hid (bz s 0≠117∧bz s 0≠85):=Z (by rw[HB0.out];exact⟨h117,h85⟩);clear h85 h117;go_wp2_with fail;go_loopw [11] (fun u wr=>∃n:Nat,u= .int .i64 n∧Hid ((0≤n∧n≤3)∧n≤s.size∧(∀x,x<n→dg (bz s x) <8)∧Keep w wr)) (fun u _=>3-br u)
    case atStart=>exact⟨0,rfl,Z ⟨by decide,Nat.zero_le _,fun x h=>by omega,HKR⟩⟩
    case round=>
     obtain⟨n,rfl,HN1⟩:=hrel;have hn0:(0:Int)≤(n:Int):=by omega
     by_cases h3:n<3
     ·have h3z:(n:Int) <3:=by omega
      by_cases hm:n<s.size
      ·have hmz:(n:Int) < (s.size:Int):=by omega
       have hm1:(n:Int)+1≤(s.size:Int):=by omega
       have hnn:((n:Int)+1).toNat=n+1:=by omega
       have HAO:=Z (mi (b:=8) hm);by_cases hd:dg (bz s n) <8
       ·have HD:=Z hd;clear hd;go_wp2_with (go_at_call 106;refine(aJ _ 8 _ (by rw[qo];omega)).mono ?_;rintro e w' ⟨rfl,rfl⟩;rw[HAO.out,decide_eq_true HD.out]);go_roundw
        case rel=>exact⟨n+1,by simp,Z ⟨by omega,hm,fun x h2=>by
         rcases Nat.lt_or_ge x n with g|g
         ·exact HN1.2.2.1 x g
         ·rw[show x=n from by omega];exact HD.out,HN1.2.2.2⟩⟩
        case measure=>simp only[br];omega
       ·have HD:=Z hd;clear hd;by_cases hn1e:n=0
        ·have qn:((n:Int) ==0)=true:=by rw[hn1e];rfl
         clear hn1e;go_wp2_with (go_at_call 106;refine(aJ _ 8 _ (by rw[qo];omega)).mono ?_;rintro e w' ⟨rfl,rfl⟩;rw[HAO.out,decide_eq_false HD.out]);go_ret3;exact⟨⟨#[]⟩,0,1,rfl,Nat.zero_le _,Nat.zero_le _,fun e=>absurd e (by decide),HN1.2.2.2⟩
        ·have qn:((n:Int) ==0)=false:=bf (by omega);have hnz:(n:Int)≤(s.size:Int):=by have:=HN1.2.1;omega
         have hxs:(s.extract 0 n).size=n-0:=by rw[qo];have:=HN1.2.1;omega
         have HXS:=Z hxs;clear hxs;obtain⟨N,hN1,hN2⟩:=bN (b:=8) (l:=sg s 0 n) (by decide) (by intro e;have h1:=bw (s:=s) (i:=0) HN1.2.1;rw[e] at h1;simp at h1;omega) (fun c hc=>by
          obtain⟨x,x1,x2,rfl⟩:=cJ HN1.2.1 hc;exact⟨(eE s x).1,HN1.2.2.1 x x2⟩)
         rw[bw HN1.2.1] at hN2;have HN2:=Z hN1;have hN3:N<512:=by
          have hle:n-0≤3:=by have:=HN1.1;omega
          exact Nat.lt_of_lt_of_le hN2 (Nat.le_trans (Nat.pow_le_pow_right (by decide) hle) (by decide))
         clear hN1 hN2;have hNz:(N:Int) <512:=by omega
         have hNz0:(0:Int)≤(N:Int):=by omega
         go_wp2_with (first|(go_at_call 106;refine(aJ _ 8 _ (by rw[qo];omega)).mono ?_;rintro e w' ⟨rfl,rfl⟩;rw[HAO.out,decide_eq_false HD.out])|(go_at_call 107;refine(HPU8.out (s.extract 0 n) wr (HK.trans HN1.2.2.2) (by rw[HXS.out];have:=HN1.2.1;omega) (eA (by have:=HN1.1;omega) HN1.2.1 (fun x _ h=>HN1.2.2.1 x h))).mono ?_;rintro e w2 ⟨v,ev,rfl,kk,hev,hv0,hv1,hNN⟩;obtain⟨rfl,rfl⟩:=hNN N (by rw[bL];exact HN2.out) (by omega);have KK:=Z kk;clear kk hev hNN;refine Hid.out ?_));refine Z ?_;by_cases hbig:N>255
         ·have hbz:(N:Int) >255:=by omega
          go_wp2_with fail;go_ret3;exact⟨⟨#[]⟩,0,2,rfl,Nat.zero_le _,Nat.zero_le _,fun e=>absurd e (by decide),HN1.2.2.2.trans KK⟩
         ·have hbz:¬ (N:Int) >255:=by omega
          have hNm:(N:Int) %256=(N:Int):=Int.emod_eq_of_lt hNz0 (by omega);have hcv:=dK (N:Int) hNz0 (by omega);go_wp2_with fail;go_ret3;exact⟨⟨#[UInt8.ofNat N]⟩,n,0,rfl,HN1.2.1,by show 1≤8;decide,fun _=>⟨by show 1≤n;omega,by rw[qp];exact l_ HN.out HX.out HU.out (by omega) HN1.1.2 HN1.2.1 HN1.2.2.1 (fun _ _=>by have:=HD.out;omega) HN2.out hbig⟩,HN1.2.2.2.trans (KK.alloc _)⟩
      ·have hmz:¬ (n:Int) < (s.size:Int):=by omega
       have qn:((n:Int) ==0)=false:=bf (by omega);have hn1e:¬n=0:=by omega
       have hnz:(n:Int)≤(s.size:Int):=by have:=HN1.2.1;omega
       have hxs:(s.extract 0 n).size=n-0:=by rw[qo];have:=HN1.2.1;omega
       have HXS:=Z hxs;clear hxs;obtain⟨N,hN1,hN2⟩:=bN (b:=8) (l:=sg s 0 n) (by decide) (by intro e;have h1:=bw (s:=s) (i:=0) HN1.2.1;rw[e] at h1;simp at h1;omega) (fun c hc=>by
        obtain⟨x,x1,x2,rfl⟩:=cJ HN1.2.1 hc;exact⟨(eE s x).1,HN1.2.2.1 x x2⟩)
       rw[bw HN1.2.1] at hN2;have HN2:=Z hN1;have hN3:N<512:=by
        have hle:n-0≤3:=by have:=HN1.1;omega
        exact Nat.lt_of_lt_of_le hN2 (Nat.le_trans (Nat.pow_le_pow_right (by decide) hle) (by decide))
       clear hN1 hN2;have hNz:(N:Int) <512:=by omega
       have hNz0:(0:Int)≤(N:Int):=by omega
       go_wp2_with (go_at_call 107;refine(HPU8.out (s.extract 0 n) wr (HK.trans HN1.2.2.2) (by rw[HXS.out];have:=HN1.2.1;omega) (eA (by have:=HN1.1;omega) HN1.2.1 (fun x _ h=>HN1.2.2.1 x h))).mono ?_;rintro e w2 ⟨v,ev,rfl,kk,hev,hv0,hv1,hNN⟩;obtain⟨rfl,rfl⟩:=hNN N (by rw[bL];exact HN2.out) (by omega);have KK:=Z kk;clear kk hev hNN;refine Hid.out ?_);refine Z ?_;by_cases hbig:N>255
       ·have hbz:(N:Int) >255:=by omega
        go_wp2_with fail;go_ret3;exact⟨⟨#[]⟩,0,2,rfl,Nat.zero_le _,Nat.zero_le _,fun e=>absurd e (by decide),HN1.2.2.2.trans KK⟩
       ·have hbz:¬ (N:Int) >255:=by omega
        have hNm:(N:Int) %256=(N:Int):=Int.emod_eq_of_lt hNz0 (by omega);have hcv:=dK (N:Int) hNz0 (by omega);go_wp2_with fail;go_ret3;exact⟨⟨#[UInt8.ofNat N]⟩,n,0,rfl,HN1.2.1,by show 1≤8;decide,fun _=>⟨by show 1≤n;omega,by rw[qp];exact l_ HN.out HX.out HU.out (by omega) HN1.1.2 HN1.2.1 HN1.2.2.1 (fun _ h=>absurd h hm) HN2.out hbig⟩,HN1.2.2.2.trans (KK.alloc _)⟩
     ·have h3z:¬ (n:Int) <3:=by omega
      have qn:((n:Int) ==0)=false:=bf (by omega);have hn1e:¬n=0:=by omega
      have hnz:(n:Int)≤(s.size:Int):=by have:=HN1.2.1;omega
      have hxs:(s.extract 0 n).size=n-0:=by rw[qo];have:=HN1.2.1;omega
      have HXS:=Z hxs;clear hxs;obtain⟨N,hN1,hN2⟩:=bN (b:=8) (l:=sg s 0 n) (by decide) (by intro e;have h1:=bw (s:=s) (i:=0) HN1.2.1;rw[e] at h1;simp at h1;omega) (fun c hc=>by
       obtain⟨x,x1,x2,rfl⟩:=cJ HN1.2.1 hc;exact⟨(eE s x).1,HN1.2.2.1 x x2⟩)
      rw[bw HN1.2.1] at hN2;have HN2:=Z hN1;have hN3:N<512:=by
       have hle:n-0≤3:=by have:=HN1.1;omega
       exact Nat.lt_of_lt_of_le hN2 (Nat.le_trans (Nat.pow_le_pow_right (by decide) hle) (by decide))
      clear hN1 hN2;have hNz:(N:Int) <512:=by omega
      have hNz0:(0:Int)≤(N:Int):=by omega
      go_wp2_with (go_at_call 107;refine(HPU8.out (s.extract 0 n) wr (HK.trans HN1.2.2.2) (by rw[HXS.out];have:=HN1.2.1;omega) (eA (by have:=HN1.1;omega) HN1.2.1 (fun x _ h=>HN1.2.2.1 x h))).mono ?_;rintro e w2 ⟨v,ev,rfl,kk,hev,hv0,hv1,hNN⟩;obtain⟨rfl,rfl⟩:=hNN N (by rw[bL];exact HN2.out) (by omega);have KK:=Z kk;clear kk hev hNN;refine Hid.out ?_);refine Z ?_;by_cases hbig:N>255
      ·have hbz:(N:Int) >255:=by omega
       go_wp2_with fail;go_ret3;exact⟨⟨#[]⟩,0,2,rfl,Nat.zero_le _,Nat.zero_le _,fun e=>absurd e (by decide),HN1.2.2.2.trans KK⟩
      ·have hbz:¬ (N:Int) >255:=by omega
       have hNm:(N:Int) %256=(N:Int):=Int.emod_eq_of_lt hNz0 (by omega);have hcv:=dK (N:Int) hNz0 (by omega);go_wp2_with fail;go_ret3;exact⟨⟨#[UInt8.ofNat N]⟩,n,0,rfl,HN1.2.1,by show 1≤8;decide,fun _=>⟨by show 1≤n;omega,by rw[qp];exact l_ HN.out HX.out HU.out (by omega) HN1.1.2 HN1.2.1 HN1.2.2.1 (fun h _=>absurd h h3) HN2.out hbig⟩,HN1.2.2.2.trans (KK.alloc _)⟩
end Go.Proofs.YtnclklfhjbkjhaaGreatDoor
