/- Part of the proof: H5 H6. -/
import Derived.Test.YtnclklfhjbkjhaaGreatDoorHb
import Derived.Test.YtnclklfhjbkjhaaGreatDoorAe
import Derived.Laws.BitsAllLaws
set_option maxRecDepth 1000000
set_option maxHeartbeats 40000000
set_option linter.unusedSimpArgs false
namespace Go.Proofs.YtnclklfhjbkjhaaGreatDoor
open Tryz
open Go.RowKit
theorem kP(x:Int)(h0:0≤x)(h1:x<18446744073709551616):bits .and .u64 x 63=x%64:=by
 rw[u64_and x 63 h0 h1 (by decide) (by decide)];have:=Nat.and_two_pow_sub_one_eq_mod x.toNat 6;rw[show(63:Int).toNat=2^6-1 from rfl,this];omega
theorem lC(i a:Nat)(y:Int)(h0:0≤y)(h1:y< (2^i:Nat))(h2:2^i*a<18446744073709551616)(h3:(2^i:Nat) <18446744073709551616):bits .or .u64 ((2^i*a:Nat):Int) y=((2^i*a:Nat):Int)+y:=by
 rw[u64_or _ y (by omega) (by omega) h0 (by omega),Int.toNat_natCast];have:=Nat.two_pow_add_eq_or_of_lt (show y.toNat<2^i by omega) a;rw[←this];omega
theorem ky(y:Int)(h0:0≤y)(h1:y<64):bits .or .u64 128 y=128+y:=lC 7 1 y h0 (by omega) (by decide) (by decide)
theorem yB(y:Int)(h0:0≤y)(h1:y<32):bits .or .u64 192 y=192+y:=lC 6 3 y h0 (by omega) (by decide) (by decide)
theorem yA(y:Int)(h0:0≤y)(h1:y<32):bits .or .u64 224 y=224+y:=lC 5 7 y h0 (by omega) (by decide) (by decide)
theorem yz(y:Int)(h0:0≤y)(h1:y<16):bits .or .u64 240 y=240+y:=lC 4 15 y h0 (by omega) (by decide) (by decide)
def jX(l:List Int):ByteArray:=⟨(l.map fun x=>UInt8.ofNat x.toNat).toArray⟩
theorem fE(l:List Int):(jX l).toList=l.map fun x=>UInt8.ofNat x.toNat:=by rw[qi];rfl
theorem cy(l:List Int):(jX l).size=l.length:=by simp[jX,ByteArray.size]
theorem yV(x y:Int)(hx:0≤x∧x<256)(hy:0≤y∧y<256)(w:World):(convert 117 9 (.slice (some ⟨w.heap.size,0,none⟩) 2 2)).run prog (w.alloc (.cells #[.int .u8 x,.int .u8 y] 5))= .ok (.string (jX [x,y])) (w.alloc (.cells #[.int .u8 x,.int .u8 y] 5)):=du w [x,y] (by simp;omega)
theorem yU(x y z:Int)(hx:0≤x∧x<256)(hy:0≤y∧y<256)(hz:0≤z∧z<256)(w:World):(convert 117 9 (.slice (some ⟨w.heap.size,0,none⟩) 3 3)).run prog (w.alloc (.cells #[.int .u8 x,.int .u8 y,.int .u8 z] 5))= .ok (.string (jX [x,y,z])) (w.alloc (.cells #[.int .u8 x,.int .u8 y,.int .u8 z] 5)):=du w [x,y,z] (by simp;omega)
theorem yT(x y z u:Int)(hx:0≤x∧x<256)(hy:0≤y∧y<256)(hz:0≤z∧z<256)(hu:0≤u∧u<256)(w:World):(convert 117 9 (.slice (some ⟨w.heap.size,0,none⟩) 4 4)).run prog (w.alloc (.cells #[.int .u8 x,.int .u8 y,.int .u8 z,.int .u8 u] 5))= .ok (.string (jX [x,y,z,u])) (w.alloc (.cells #[.int .u8 x,.int .u8 y,.int .u8 z,.int .u8 u] 5)):=du w [x,y,z,u] (by simp;omega)
theorem gy{s:ByteArray}{m q N:Nat}(hm:m=4∧bz s 0=117∨m=8∧bz s 0=85)(hq:m+1=q)(hqs:q≤s.size)(hl:escT.lookup (bz s 0)=none)(hall:∀x,1≤x→x<q→dg (bz s x) <16)(hN:bA 16 (fG (sg s 1 q))=some N)(hv:¬ ((55296≤N∧N<57344)∨N>1114111)):
  gR (tx s 0)=some (enc (N:Int),q):=by
 have hu:pW m (tx s 1)=some (enc (N:Int),q):=by
  have ht:(tx s 1).take m=sg s 1 q:=by unfold sg;rw[show q-1=m from by omega]
  unfold pW;rw[ht,if_neg]
  ·rw[hN];simp only;rw[if_neg hv,hq]
  ·rintro(h|h)
   ·rw[ec] at h;omega
   ·refine h (List.all_eq_true.2 fun c hc=>?_);obtain⟨x,x1,x2,rfl⟩:=cJ hqs hc;exact dg_H.1 (hall x x1 x2)
 rw[aL (show 0<s.size by omega)];unfold gR;simp only[hl,Nat.zero_add];rcases hm with⟨rfl,h⟩|⟨rfl,h⟩
 ·rw[h,if_neg (by decide),if_pos rfl];exact hu
 ·rw[h,if_neg (by decide),if_neg (by decide),if_pos rfl];exact hu
theorem pa(w0:World)(s:ByteArray)(hs:s.size≤100000)(m:Nat)(hm:m=4∧bz s 0=117∨m=8∧bz s 0=85)(w:World)(hk:Keep w0 w)(hp:0<s.size)(hl:escT.lookup (bz s 0)=none)
  (hpu:∀ (d:ByteArray) (b:Nat) (w':World),Keep w0 w'→(b=8∨b=10∨b=16)→d.size≤100000→cz b d=true→Calls prog 107 #[.string d,.int .i64 b,.int .i64 64] w' (dO d b w')):
  Calls prog 111 #[.string s] w (fF s w):=by
 have HK:=Z hk;have HPU16:=Z fun(d:ByteArray) (w':World) (h:Keep w0 w') (h1:d.size≤100000) (h2:cz 16 d=true)=>hpu d 16 w' h (.inr (.inr rfl)) h1 h2
 have HL:=Z hl;have hpz:(0:Int) < (s.size:Int):=by omega
 have HB0:=Z (aq hp);have q85:(((s[0]'hp).toNat:Int) ==85)=decide (m=8):=by
  rw[←aq hp];rcases hm with⟨h1,h2⟩|⟨h1,h2⟩<;>rw[h1,h2]<;>rfl
 obtain⟨q,hq⟩:∃q,m+1=q:=⟨_,rfl⟩;have hq9:q≤9∧5≤q:=by omega
 have hqz:(q:Int)≤9:=by omega
 have hqz1:(1:Int)≤(q:Int):=by omega
 have HM:=Z hm;have HQ:=Z hq;clear hk hpu hl hm;go_enter func111,ntmps111;go_upto_region 1 with fail;go_cut [5] (fun s5 wx=>wx=w∧s5= .int .i64 5)
 case first=>
  go_wp2_with fail;go_meet;exact⟨rfl,rfl⟩
 case rest=>
  obtain⟨rfl,rfl⟩:=hcut;go_step;go_step;go_cut [5] (fun s5 wx=>wx=wc∧s5= .int .i64 q)
  case first=>
   rcases HM with⟨h1,h2⟩|⟨h1,h2⟩
   ·have q85':(((s[0]'hp).toNat:Int) ==85)=false:=by rw[q85,h1];rfl
    have q5:Value.int .i64 5=Value.int .i64 (q:Int):=by rw[←hq,h1];rfl
    have Q5:=Z q5;clear q5 h1 h2 q85 hq;go_wp2_with fail;go_meet;exact⟨rfl,Q5⟩
   ·have q85':(((s[0]'hp).toNat:Int) ==85)=true:=by rw[q85,h1];rfl
    have q5:Value.int .i64 9=Value.int .i64 (q:Int):=by rw[←hq,h1];rfl
    have Q5:=Z q5;clear q5 h1 h2 q85 hq;go_wp2_with fail;go_meet;exact⟨rfl,Q5⟩
  case rest=>
   obtain⟨rfl,rfl⟩:=hcut;clear q85 hq;have bad:∀how:Int,how≠0→fF s wc (.returned (.tuple #[.string ⟨#[]⟩,.int .i64 0,.int .i64 how])) wc:=fun how h=>⟨⟨#[]⟩,0,how,rfl,Nat.zero_le _,Nat.zero_le _,fun e=>absurd e h,Fr.refl wc⟩
   have BAD:=Z bad;clear bad;by_cases hsz:s.size<q
   ·have hszz:(s.size:Int) < (q:Int):=by omega
    by_cases h1:1<s.size
    ·have h1z:(s.size:Int) >1:=by omega
     have h1z':(1:Int) < (s.size:Int):=by omega
     go_wp2_with fail
     all_goals
      go_ret3;exact BAD _ (by decide)
    ·have h1z:¬ (s.size:Int) >1:=by omega
     have h1z':¬ (1:Int) < (s.size:Int):=by omega
     go_wp2_with fail
     all_goals
      go_ret3;exact BAD _ (by decide)
   ·have hszz:¬ (s.size:Int) < (q:Int):=by omega
    have hszz':(q:Int)≤(s.size:Int):=by omega
    have h1z:(s.size:Int) >1:=by omega
    have h1z':(1:Int) < (s.size:Int):=by omega
    have hqs:q≤s.size:=by omega
    have hxs:(s.extract 1 q).size=q-1:=by rw[qo];omega
    have HXS:=Z hxs;clear hxs;cases hall:cz 16 (s.extract 1 q)
    ·have HALL:=Z hall;clear hall;go_wp2_with (go_at_call 106;refine(aJ _ 16 _ (by rw[HXS.out];omega)).mono ?_;rintro e w' ⟨rfl,rfl⟩;rw[HALL.out])
     all_goals
      go_ret3;exact BAD _ (by decide)
    ·have HALL:=Z hall;have hdg:∀x,1≤x→x<q→dg (bz s x) <16:=by
      intro x x1 x2;unfold cz at hall;rw[Bool.and_eq_true,decide_eq_true_eq] at hall;have hx:x-1< (s.extract 1 q).size:=by rw[HXS.out];omega
      have:=hall.1 (x-1) hx;rw[aq hx,ByteArray.getElem_extract,←aq (by omega),show 1+(x-1)=x from by omega] at this;exact this
     obtain⟨N,hN1,hN2⟩:=bN (b:=16) (l:=sg s 1 q) (by decide) (by intro e;have h1:=bw (s:=s) (i:=1) hqs;rw[e] at h1;simp at h1;omega) (fun c hc=>by
      obtain⟨x,x1,x2,rfl⟩:=cJ hqs hc;exact⟨(eE s x).1,hdg x x1 x2⟩)
     rw[bw hqs] at hN2;have HN:=Z hN1;have HDG:=Z hdg;have hN3:N<4294967296:=Nat.lt_of_lt_of_le hN2 (Nat.le_trans (Nat.pow_le_pow_right (by decide) (show q-1≤8 by omega)) (by decide));clear hN1 hN2 hdg hall;have hNz:(N:Int) <4294967296:=by omega
     have hNz0:(0:Int)≤(N:Int):=by omega
     have h43:(((s[1]'(by omega)).toNat:Int) ==43)=false:=bf (by
      have:=HDG 1 (by omega) (by omega);rw[←aq];have:=fq (dg_H.1 this);omega)
     have h45:(((s[1]'(by omega)).toNat:Int) ==45)=false:=bf (by
      have:=HDG 1 (by omega) (by omega);rw[←aq];have:=fq (dg_H.1 this);omega)
     go_wp2_with (first|(go_at_call 106;refine(aJ _ 16 _ (by rw[HXS.out];omega)).mono ?_;rintro e w' ⟨rfl,rfl⟩;rw[HALL.out])|(go_at_call 107;refine(HPU16.out (s.extract 1 q) wc HK.out (by rw[HXS.out];omega) HALL.out).mono ?_;rintro e w2 ⟨v,ev,rfl,kk,hev,hv0,hv1,hNN⟩;obtain⟨rfl,rfl⟩:=hNN N (by rw[bL];exact HN.out) (by omega);have KK:=Z kk;clear kk hev hNN;refine Hid.out ?_));refine Z ?_;by_cases g1:55296≤N∧N<57344
     ·have g1z:(N:Int)≥55296:=by omega
      have g2z:(N:Int) <57344:=by omega
      go_wp2_with fail;go_ret3;exact⟨⟨#[]⟩,0,2,rfl,Nat.zero_le _,Nat.zero_le _,fun e=>absurd e (by decide),KK⟩
     have g1z:¬ ((N:Int)≥55296∧(N:Int) <57344):=by omega
     by_cases g2:N>1114111
     ·have g2z:(N:Int) >1114111:=by omega
      have g3z:(N:Int)≥55296:=by omega
      have g4z:¬ (N:Int) <57344:=by omega
      go_wp2_with fail;go_ret3;exact⟨⟨#[]⟩,0,1,rfl,Nat.zero_le _,Nat.zero_le _,fun e=>absurd e (by decide),KK⟩
     have g2z:¬ (N:Int) >1114111:=by omega
     by_cases g3:N<128
     ·have g3z:(N:Int) <128:=by omega
      have g4z:¬ (N:Int)≥55296:=by omega
      have hNm:(N:Int) %256=(N:Int):=Int.emod_eq_of_lt hNz0 (by omega);have hcv:=dK (N:Int) hNz0 (by omega);go_wp2_with fail;go_ret3;exact⟨⟨#[UInt8.ofNat ((N:Int)).toNat]⟩,q,0,rfl,hqs,(by show 1≤8;decide),fun _=>⟨(by show 1≤q;omega),by
       rw[gy HM.out HQ.out hqs HL.out HDG.out HN.out (by omega),qp];unfold enc Go.Lib.encodeRune;rw[Go.Lib.encodeRuneZ_one hNz0 (by omega)];rfl⟩,KK.alloc _⟩
     have g3z:¬ (N:Int) <128:=by omega
     by_cases g4:N<2048
     ·have g4z:(N:Int) <2048:=by omega
      have g5z:¬ (N:Int)≥55296:=by omega
      have hcv:=yV (192+(N:Int) /64) (128+(N:Int) %64) (by omega) (by omega);have a0:=kP ((N:Int)) (by omega) (by omega);have o0:=ky ((N:Int) %64) (by omega) (by omega);have m0:(128+(N:Int) %64) %256=128+(N:Int) %64:=Int.emod_eq_of_lt (by omega) (by omega);have o1:=yB ((N:Int) /64) (by omega) (by omega);have m1:(192+(N:Int) /64) %256=192+(N:Int) /64:=Int.emod_eq_of_lt (by omega) (by omega);go_wp2_with fail;go_ret3;exact⟨jX [192+(N:Int) /64,128+(N:Int) %64],q,0,rfl,hqs,(by rw[cy];show 2≤8;decide),fun _=>⟨(by rw[cy];show 2≤q;omega),by
       rw[gy HM.out HQ.out hqs HL.out HDG.out HN.out (by omega),fE];unfold enc Go.Lib.encodeRune;rw[Go.Lib.encodeRuneZ_two (by omega) (by omega)]⟩,KK.alloc _⟩
     have g4z:¬ (N:Int) <2048:=by omega
     by_cases g5:N<65536
     ·have g5z:(N:Int) <65536:=by omega
      have hr:(2048≤(N:Int)∧(N:Int) <55296)∨(57343< (N:Int)∧(N:Int)≤65535):=by omega
      have hcv:=yU (224+(N:Int) /4096) (128+(N:Int) /64%64) (128+(N:Int) %64) (by omega) (by omega) (by omega);have a0:=kP ((N:Int)) (by omega) (by omega);have o0:=ky ((N:Int) %64) (by omega) (by omega);have m0:(128+(N:Int) %64) %256=128+(N:Int) %64:=Int.emod_eq_of_lt (by omega) (by omega);have a1:=kP ((N:Int) /64) (by omega) (by omega);have o1:=ky ((N:Int) /64%64) (by omega) (by omega);have m1:(128+(N:Int) /64%64) %256=128+(N:Int) /64%64:=Int.emod_eq_of_lt (by omega) (by omega);have o2:=yA ((N:Int) /4096) (by omega) (by omega);have m2:(224+(N:Int) /4096) %256=224+(N:Int) /4096:=Int.emod_eq_of_lt (by omega) (by omega);have HRR:=Z hr;by_cases g6:N<55296
      ·have g6z:¬ (N:Int)≥55296:=by omega
       clear hr;go_wp2_with fail;go_ret3;exact⟨jX [224+(N:Int) /4096,128+(N:Int) /64%64,128+(N:Int) %64],q,0,rfl,hqs,(by rw[cy];show 3≤8;decide),fun _=>⟨(by rw[cy];show 3≤q;omega),by
        rw[gy HM.out HQ.out hqs HL.out HDG.out HN.out (by omega),fE];unfold enc Go.Lib.encodeRune;rw[Go.Lib.encodeRuneZ_three HRR.out]⟩,KK.alloc _⟩
      ·have g6z:(N:Int)≥55296:=by omega
       have g7z:¬ (N:Int) <57344:=by omega
       clear hr;go_wp2_with fail;go_ret3;exact⟨jX [224+(N:Int) /4096,128+(N:Int) /64%64,128+(N:Int) %64],q,0,rfl,hqs,(by rw[cy];show 3≤8;decide),fun _=>⟨(by rw[cy];show 3≤q;omega),by
        rw[gy HM.out HQ.out hqs HL.out HDG.out HN.out (by omega),fE];unfold enc Go.Lib.encodeRune;rw[Go.Lib.encodeRuneZ_three HRR.out]⟩,KK.alloc _⟩
     have g5z:¬ (N:Int) <65536:=by omega
     have g6z:(N:Int)≥55296:=by omega
     have g7z:¬ (N:Int) <57344:=by omega
     have hcv:=yT (240+(N:Int) /262144) (128+(N:Int) /4096%64) (128+(N:Int) /64%64) (128+(N:Int) %64) (by omega) (by omega) (by omega) (by omega);have a0:=kP ((N:Int)) (by omega) (by omega);have o0:=ky ((N:Int) %64) (by omega) (by omega);have m0:(128+(N:Int) %64) %256=128+(N:Int) %64:=Int.emod_eq_of_lt (by omega) (by omega);have a1:=kP ((N:Int) /64) (by omega) (by omega);have o1:=ky ((N:Int) /64%64) (by omega) (by omega);have m1:(128+(N:Int) /64%64) %256=128+(N:Int) /64%64:=Int.emod_eq_of_lt (by omega) (by omega);have a2:=kP ((N:Int) /4096) (by omega) (by omega);have o2:=ky ((N:Int) /4096%64) (by omega) (by omega);have m2:(128+(N:Int) /4096%64) %256=128+(N:Int) /4096%64:=Int.emod_eq_of_lt (by omega) (by omega);have o3:=yz ((N:Int) /262144) (by omega) (by omega);have m3:(240+(N:Int) /262144) %256=240+(N:Int) /262144:=Int.emod_eq_of_lt (by omega) (by omega);go_wp2_with fail;go_ret3;exact⟨jX [240+(N:Int) /262144,128+(N:Int) /4096%64,128+(N:Int) /64%64,128+(N:Int) %64],q,0,rfl,hqs,(by rw[cy];show 4≤8;decide),fun _=>⟨(by rw[cy];show 4≤q;omega),by
      rw[gy HM.out HQ.out hqs HL.out HDG.out HN.out (by omega),fE];unfold enc Go.Lib.encodeRune;rw[Go.Lib.encodeRuneZ_four (by omega) (by omega)]⟩,KK.alloc _⟩
theorem nA(w0:World)(s:ByteArray)(hs:s.size≤100000)(w:World)(hk:Keep w0 w)
  (hpu:∀ (d:ByteArray) (b:Nat) (w':World),Keep w0 w'→(b=8∨b=10∨b=16)→d.size≤100000→cz b d=true→Calls prog 107 #[.string d,.int .i64 b,.int .i64 64] w' (dO d b w')):
  Calls prog 78 #[.string s] w (fF s w):=
 oA w0 s hs w hk hpu fun w' hk' hp hb hl=>by
  rcases hb with hb|hb
  ·exact pa w0 s hs 4 (.inl ⟨rfl,hb⟩) w' hk' hp hl hpu
  ·exact pa w0 s hs 8 (.inr ⟨rfl,hb⟩) w' hk' hp hl hpu
def gW(w:World)(e:Ending)(w':World):Prop:=∃ (f:Nat) (ev:Value),e= .returned (.tuple #[.float .f64 f,ev])∧Keep w w'∧(ev= .nilIface∨∃T a,ev= .iface T a)
theorem ValPost.mk'{hx:Bool}{w w':World}(k num how:Int)(hk:Keep w w')(h:k=2∨k=3∧hx=false):ValPost hx w (.returned (.tuple #[.int .i64 k,.int .u64 num,.int .i64 how])) w':=by
 refine⟨k,num,how,rfl,?_,?_,hk⟩
 ·rcases h with h|⟨h,-⟩
  ·exact .inl h
  ·exact .inr h
 ·intro e;rcases h with h|⟨-,h⟩
  ·exact h
  ·rw[h] at e;cases e
theorem pV(w0:World)(s:ByteArray)(hx:Bool)(hs:s.size≤100000)(h0:0<s.size)(h2:hx=true→2≤s.size)(w:World)(hk:Keep w0 w)
  (hpu:∀ (d:ByteArray) (b:Nat) (w':World),Keep w0 w'→(b=8∨b=10∨b=16)→d.size≤100000→cz b d=true→Calls prog 107 #[.string d,.int .i64 b,.int .i64 64] w' (dO d b w'))
  (hpf:∀ (d:ByteArray) (w':World),Keep w0 w'→d.size≤100000→RealOk d→Calls prog 109 #[.string d,.int .i64 64] w' (gW w')):
  Calls prog 77 #[.string s,.bool hx] w (ValPost hx w):=by
 have HK:=Z hk;have HPU:=Z hpu;have HPF:=Z hpf;clear hk hpu hpf;have hz0:(0:Int) < (s.size:Int):=by omega
 have hb:=lY;go_enter func77,ntmps77;go_upto_region 1 with fail;go_cut [7,8] (fun s7 s8 wx=>wx=w∧s7= .int .i64 10∧s8= .string s)
 case first=>
  go_wp2_with fail;go_meet;exact⟨rfl,rfl,rfl⟩
 case rest=>
  obtain⟨rfl,rfl,rfl⟩:=hcut;go_step;go_step;go_cut [7,8] (fun s7 s8 wx=>Keep wc wx∧∃ (b:Nat) (d:ByteArray),s7= .int .i64 b∧s8= .string d∧Hid ((b=8∨b=10∨b=16)∧d.size≤100000))
  case first=>
   cases hx
   ·cases hall:cz 10 s
    ·have HALL:=Z hall;clear hall;by_cases h1:1<s.size
     ·have h1z:(s.size:Int) >1:=by omega
      go_wp2_with (go_at_call 106;refine(aJ _ 10 _ hs).mono ?_;rintro e w' ⟨rfl,rfl⟩;rw[HALL.out])
      all_goals
       go_meet;exact⟨Fr.refl _,10,s,rfl,rfl,Z ⟨.inr (.inl rfl),hs⟩⟩
     ·have h1z:¬ (s.size:Int) >1:=by omega
      have h1z':¬ (1:Int) < (s.size:Int):=by omega
      go_wp2_with fail;go_meet;exact⟨Fr.refl _,10,s,rfl,rfl,Z ⟨.inr (.inl rfl),hs⟩⟩
    ·have HALL:=Z hall;clear hall;by_cases h1:1<s.size
     ·have h1z:(s.size:Int) >1:=by omega
      have h1z':(1:Int)≤(s.size:Int):=by omega
      by_cases h48:((s[0]'h0).toNat:Int)=48
      ·have q48:(((s[0]'h0).toNat:Int) ==48)=true:=by rw[h48];rfl
       clear h48;go_wp2_with (go_at_call 106;refine(aJ _ 10 _ hs).mono ?_;rintro e w' ⟨rfl,rfl⟩;rw[HALL.out]);go_quiet (fail);go_wp2_with fail;go_meet;exact⟨(Fr.refl _).drewNf _,8,s.extract 1 s.size,rfl,rfl,Z ⟨.inl rfl,by rw[qo];omega⟩⟩
      ·have q48:(((s[0]'h0).toNat:Int) ==48)=false:=by simpa using h48
       clear h48;go_wp2_with (go_at_call 106;refine(aJ _ 10 _ hs).mono ?_;rintro e w' ⟨rfl,rfl⟩;rw[HALL.out]);go_meet;exact⟨Fr.refl _,10,s,rfl,rfl,Z ⟨.inr (.inl rfl),hs⟩⟩
     ·have h1z:¬ (s.size:Int) >1:=by omega
      have h1z':¬ (1:Int) < (s.size:Int):=by omega
      go_wp2_with fail;go_meet;exact⟨Fr.refl _,10,s,rfl,rfl,Z ⟨.inr (.inl rfl),hs⟩⟩
   ·have h2z:(2:Int)≤(s.size:Int):=by have:=h2 rfl;omega
    go_wp2_with fail;go_quiet (fail);go_wp2_with fail;go_meet;exact⟨(Fr.refl _).drewNf _,16,s.extract 2 s.size,rfl,rfl,Z ⟨.inr (.inr rfl),by rw[qo];omega⟩⟩
  case rest=>
   obtain⟨KW,b,d,rfl,rfl,HB⟩:=hcut;cases hx
   ·cases hall:cz 10 s
    ·have HALL:=Z hall;clear hall;go_wp2_with (first|(go_at_call 106;refine(aJ s 10 _ hs).mono ?_;rintro e w' ⟨rfl,rfl⟩;rw[HALL.out])|(go_at_call 108;refine(rJ _ _ hs).mono ?_;rintro e w' ⟨⟨b2,rfl,hreal⟩,rfl⟩;have HRL:=Z hreal;clear hreal;refine Hid.out ?_));refine Z ?_;cases b2
     ·go_wp2_with fail;go_ret3;exact ValPost.mk' 3 _ _ KW (.inr ⟨rfl,rfl⟩)
     ·go_wp2_with (go_at_call 109;refine(HPF s _ (HK.trans KW) hs (HRL rfl)).mono ?_;rintro e w2 ⟨f,ev,rfl,kk,hev⟩;have KK:=Z kk;clear kk;have HEV:=Z hev;clear hev;refine Hid.out ?_);refine Z ?_;rcases HEV with rfl|⟨T,a,rfl⟩
      ·by_cases h1:1<s.size
       ·have h1z:(s.size:Int) >1:=by omega
        have h1z':(1:Int) < (s.size:Int):=by omega
        go_wp2_with (go_at_call 43;refine(ai _ _).mono ?_;rintro e w' ⟨rfl,rfl⟩)
        all_goals
         go_ret3;exact ValPost.mk' 3 _ _ (KW.trans KK) (.inr ⟨rfl,rfl⟩)
       ·have h1z:¬ (s.size:Int) >1:=by omega
        have h1z':¬ (1:Int) < (s.size:Int):=by omega
        go_wp2_with fail
        all_goals
         go_ret3;exact ValPost.mk' 3 _ _ (KW.trans KK) (.inr ⟨rfl,rfl⟩)
      ·go_wp2_with fail;go_ret3;exact ValPost.mk' 3 _ _ (KW.trans KK) (.inr ⟨rfl,rfl⟩)
    ·have HALL:=Z hall;clear hall;go_wp2_with fail;refine(aJ s 10 _ hs).mono ?_;rintro e w' ⟨rfl,rfl⟩;rw[HALL.out];cases hab:cz b d
     ·have HAB:=Z hab;clear hab;go_wp2_with ((go_at_call 106;refine(aJ _ _ _ HB.2).mono ?_;rintro e w' ⟨rfl,rfl⟩;rw[HAB.out]));go_ret3;exact ValPost.mk' 2 _ _ KW (.inl rfl)
     ·have HAB:=Z hab;clear hab;go_wp2_with (first|(go_at_call 106;refine(aJ _ _ _ HB.2).mono ?_;rintro e w' ⟨rfl,rfl⟩;rw[HAB.out])|(go_at_call 107;refine(HPU.out d b _ (HK.trans KW) HB.1 HB.2 HAB.out).mono ?_;rintro e w2 ⟨v,ev,rfl,kk,hev,-,-,-⟩;have KK:=Z kk;clear kk;have HEV:=Z hev;clear hev;refine Hid.out ?_));refine Z ?_;rcases HEV with rfl|⟨T,a,rfl⟩
      ·go_wp2_with fail;go_ret3;exact ValPost.mk' 2 _ _ (KW.trans KK) (.inl rfl)
      ·go_wp2_with fail;go_ret3;exact ValPost.mk' 2 _ _ (KW.trans KK) (.inl rfl)
   ·cases hab:cz b d
    ·have HAB:=Z hab;clear hab;go_wp2_with ((go_at_call 106;refine(aJ _ _ _ HB.2).mono ?_;rintro e w' ⟨rfl,rfl⟩;rw[HAB.out]));go_ret3;exact ValPost.mk' 2 _ _ KW (.inl rfl)
    ·have HAB:=Z hab;clear hab;go_wp2_with (first|(go_at_call 106;refine(aJ _ _ _ HB.2).mono ?_;rintro e w' ⟨rfl,rfl⟩;rw[HAB.out])|(go_at_call 107;refine(HPU.out d b _ (HK.trans KW) HB.1 HB.2 HAB.out).mono ?_;rintro e w2 ⟨v,ev,rfl,kk,hev,-,-,-⟩;have KK:=Z kk;clear kk;have HEV:=Z hev;clear hev;refine Hid.out ?_));refine Z ?_;rcases HEV with rfl|⟨T,a,rfl⟩
     ·go_wp2_with fail;go_ret3;exact ValPost.mk' 2 _ _ (KW.trans KK) (.inl rfl)
     ·go_wp2_with fail;go_ret3;exact ValPost.mk' 2 _ _ (KW.trans KK) (.inl rfl)
end Go.Proofs.YtnclklfhjbkjhaaGreatDoor
