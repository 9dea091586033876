/- Part of the proof: G4. -/
import Derived.Test.YtnclklfhjbkjhaaGreatDoorGc
import Derived.Test.YtnclklfhjbkjhaaGreatDoorHa
set_option maxRecDepth 1000000
set_option maxHeartbeats 40000000
set_option linter.unusedSimpArgs false
namespace Go.Proofs.YtnclklfhjbkjhaaGreatDoor
open Tryz
open Go.RowKit
theorem pj(a b:Int)(w:World):(binOp .neq 63 (.iface 218 (.int .i64 a)) (.iface 218 (.int .i64 b))).run prog w= .ok (.bool (!(a==b))) w:=by
 obtain⟨i,hi⟩:∃i,prog.info? 218=some i:=by
  have:(prog.info? 218).map (·.size)=some 1:=by kernel_rfl
  cases h:prog.info? 218 with
  |none=>rw[h] at this;cases this
  |some i=>exact⟨i,rfl⟩
 have hc:(prog.info? 218).map (·.comparable)=some true:=by kernel_rfl
 have hcc:i.comparable=true:=by simpa[hi] using hc
 have h:∀d:Nat,(Op.equalIn (d+2) 63 (.iface 218 (.int .i64 a)) (.iface 218 (.int .i64 b))).run prog w= .ok (a==b) w:=fun d=>by
  simp[Op.equalIn,run_underlying underlying63,run_underlying (show prog.underlying 218=some (.int .i64) from by kernel_rfl),typeInfo,hi,hcc]
 simp only[binOp];simp[Op.equal,Op.maxDepth,h 9998]
theorem fH(s:ByteArray)(b:Nat)(hb:b=8∨b=10∨b=16)(w:World)(hs:s.size≤100000)(hg:SG w):
  Calls prog 107 #[.string s,.int .i64 b,.int .i64 64] w (dO s b w):=by
 have hp:Calls prog 139 #[.string s,.int .i64 b,.int .i64 64] w (xX s b 18446744073709551616 w):=by
  rcases hb with rfl|rfl|rfl
  ·exact uo s hs w
  ·exact rQ s hs w
  ·exact rO s hs w
 have HP:=Z hp;have HG:=Z hg;clear hp hg;go_enter func107,ntmps107;go_wp2_with fail;refine HP.mono ?_;rintro e w2 ⟨v,ev,rfl,kk,hh⟩;have KK:=Z kk;clear kk;rcases hh with⟨N,h1,h2,rfl,rfl⟩|⟨rfl,rfl,h3⟩|⟨rfl,rfl,h3⟩
 ·have H1:=Z h1;clear h1;go_wp2_with fail
  go_ret2
  exact⟨_,_,rfl,KK,.inl rfl,by omega,by omega,fun M hM hM2=>by
   rw[H1.out] at hM;cases hM;exact⟨rfl,rfl⟩⟩
 ·have H3:=Z h3;clear h3;go_wp2_with (go_at_call 132;refine(dB _ s _ 64 2 (.inr rfl) _ hs (HG.keep KK)).mono ?_;rintro e w3 ⟨M,rfl,k3⟩)
  go_ret2
  exact⟨_,_,rfl,KK.trans k3,.inr ⟨_,_,rfl⟩,by decide,by decide,fun M hM _=>by rw[H3.out] at hM;cases hM⟩
 ·have H3:=Z h3;clear h3;go_wp2_with (go_at_call 132;refine(dB _ s _ 64 1 (.inl rfl) _ hs (HG.keep KK)).mono ?_;rintro e w3 ⟨M,rfl,k3⟩)
  go_ret2
  exact⟨_,_,rfl,KK.trans k3,.inr ⟨_,_,rfl⟩,by decide,by decide,fun M hM hM2=>by have:=H3 M hM;omega⟩
def zJ(s:ByteArray)(b:Nat)(w:World)(e:Ending)(w':World):Prop:=
 ∃ (v:Int) (ev:Value),e= .returned (.tuple #[.int .i64 v,ev])∧Keep w w'∧((cG b s.toList=some v∧ev= .nilIface)∨(cG b s.toList=none∧∃k:Int,(k=1∨k=2)∧ev= .iface 218 (.int .i64 k)))
theorem rU{b:Nat}{s:ByteArray}(h0:0<s.size)(h43:bz s 0≠43)(h45:bz s 0≠45):cG b s.toList=(bA b s.toList).bind fun n=>if n<2147483648 then some (n:Int) else none:=by
 have hc:s.toList=s.toList.getD 0 0::s.toList.drop 1:=by
  cases h:s.toList with
  |nil=>rw[qi] at h;have:=congrArg List.length h;simp at this;rw[this] at h0;simp at h0
  |cons c r=>rfl
 have e:(s.toList.getD 0 0).toNat=(bz s 0).toNat:=by unfold bz;simp
 unfold cG;rw[hc];simp only;rw[if_neg,if_neg]
 ·intro h;rw[h] at e;apply h45;have:=(eE s 0).1;have e2:(bz s 0).toNat=45:=e.symm;omega
 ·intro h;rw[h] at e;apply h43;have:=(eE s 0).1;have e2:(bz s 0).toNat=43:=e.symm;omega
theorem qy{b:Nat}{s:ByteArray}(h0:0<s.size)(x:ByteArray)(hx:x.toList=s.toList.drop 1):(bz s 0=43→cG b s.toList=(bA b x.toList).bind fun n=>if n<2147483648 then some (n:Int) else none)∧(bz s 0=45→cG b s.toList=(bA b x.toList).bind fun n=>if n≤2147483648 then some (-(n:Int)) else none):=by
 have hc:s.toList=b8 (bz s 0) ::s.toList.drop 1:=by
  cases h:s.toList with
  |nil=>rw[qi] at h;have:=congrArg List.length h;simp at this;rw[this] at h0;simp at h0
  |cons c r=>
   unfold bz b8;rw[h];simp
 rw[hx];constructor
 ·intro e;rw[e] at hc;unfold cG;rw[hc];simp only[List.drop_succ_cons,List.drop_zero];rw[if_pos (by decide)]
 ·intro e;rw[e] at hc;unfold cG;rw[hc];simp only[List.drop_succ_cons,List.drop_zero];rw[if_neg (by decide),if_pos (by decide)]
theorem ie(s:ByteArray)(b:Nat)(w:World)(hs:s.size≤100000)(hpu:∀ (d:ByteArray) (w:World),d.size≤100000→Calls prog 139 #[.string d,.int .i64 b,.int .i64 32] w (xX d b 4294967296 w)):
  Calls prog 131 #[.string s,.int .i64 b,.int .i64 32] w (zJ s b w):=by
 have HPU:=Z hpu;clear hpu;have n11:∀w,_:=pj 1 1;have n21:∀w,_:=pj 2 1;by_cases hne:s.size=0
 ·have hs0:s=⟨#[]⟩:=by
   apply ByteArray.ext;exact Array.eq_empty_of_size_eq_zero hne
  subst hs0;go_enter func131,ntmps131;go_wp2_with fail
  go_ret2
  exact⟨_,_,rfl,Fr.refl w,.inr ⟨by rw[qp];rfl,2,.inr rfl,rfl⟩⟩
 have hemp:s.toList.isEmpty=false:=by
  rw[←decide_eq_emptyBytes];exact decide_eq_false (fun h=>hne (by rw[h];rfl))
 have hp:0<s.size:=by omega
 have hpz:(0:Int) < (s.size:Int):=by omega
 have hpz1:(1:Int)≤(s.size:Int):=by omega
 have HB0:=Z (aq hp);have HX:=Z (Rest.ext s 1 hp);have HXZ:=Z (show(s.extract 1 s.size).size≤100000 by rw[qo];omega);have HSG:=Z (qy (b:=b) hp (s.extract 1 s.size) HX.eq);clear hne;by_cases h43:((s[0]'hp).toNat:Int)=43
 ·have q43:(((s[0]'hp).toNat:Int) ==43)=true:=by rw[h43];rfl
  have HE:=Z (HSG.1 (by rw[HB0.out];exact h43));clear h43;go_enter func131,ntmps131;go_wp2_with fail;refine(HPU (s.extract 1 s.size) w HXZ).mono ?_;rintro e w2 ⟨v,ev,rfl,kk,hh⟩;have KK:=Z kk;clear kk;rcases hh with⟨N,h1,h2,hvN,rfl⟩|⟨rfl,rfl,h1⟩|⟨rfl,rfl,h1⟩
  ·have H1:=Z h1;clear h1;have hn0:(0:Int)≤v:=by omega
   have hn1:v<4294967296:=by omega
   have HVN:=Z hvN;by_cases hbig:N<2147483648
   ·have hbig2:¬v≥2147483648:=by omega
    clear hvN;go_wp2_with fail
    go_ret2
    refine⟨v,_,rfl,KK,.inl ⟨?_,rfl⟩⟩;rw[HE.out,H1.out,Option.bind_some,if_pos hbig,HVN.out]
   ·have hbig2:v≥2147483648:=by omega
    clear hvN;go_wp2_with fail
    go_ret2
    refine⟨_,_,rfl,KK,.inr ⟨?_,1,.inl rfl,rfl⟩⟩;rw[HE.out,H1.out,Option.bind_some,if_neg hbig]
  ·have H1:=Z h1;clear h1;go_wp2_with fail
   go_ret2
   refine⟨_,_,rfl,KK,.inr ⟨?_,2,.inr rfl,rfl⟩⟩;rw[HE.out,H1.out];rfl
  ·have H1:=Z h1;clear h1;go_wp2_with fail
   go_ret2
   refine⟨_,_,rfl,KK,.inr ⟨?_,1,.inl rfl,rfl⟩⟩;rw[HE.out];cases hp:bA b (s.extract 1 s.size).toList with
   |none=>rfl
   |some N=>
    have:=H1 N hp;rw[Option.bind_some,if_neg (by omega)]
 have q43:(((s[0]'hp).toNat:Int) ==43)=false:=by simpa using h43
 by_cases h45:((s[0]'hp).toNat:Int)=45
 ·have q45:(((s[0]'hp).toNat:Int) ==45)=true:=by rw[h45];rfl
  have HE:=Z (HSG.2 (by rw[HB0.out];exact h45));clear h45 h43;go_enter func131,ntmps131;go_wp2_with fail;refine(HPU (s.extract 1 s.size) w HXZ).mono ?_;rintro e w2 ⟨v,ev,rfl,kk,hh⟩;have KK:=Z kk;clear kk;rcases hh with⟨N,h1,h2,hvN,rfl⟩|⟨rfl,rfl,h1⟩|⟨rfl,rfl,h1⟩
  ·have H1:=Z h1;clear h1;have hn0:(0:Int)≤v:=by omega
   have hn1:v<4294967296:=by omega
   have HVN:=Z hvN;by_cases hbig:N≤2147483648
   ·have hbig2:¬v>2147483648:=by omega
    clear hvN;go_wp2_with fail
    go_ret2
    refine⟨-v,_,rfl,KK,.inl ⟨?_,rfl⟩⟩;rw[HE.out,H1.out,Option.bind_some,if_pos hbig,HVN.out]
   ·have hbig2:v>2147483648:=by omega
    clear hvN;go_wp2_with fail
    go_ret2
    refine⟨_,_,rfl,KK,.inr ⟨?_,1,.inl rfl,rfl⟩⟩;rw[HE.out,H1.out,Option.bind_some,if_neg hbig]
  ·have H1:=Z h1;clear h1;go_wp2_with fail
   go_ret2
   refine⟨_,_,rfl,KK,.inr ⟨?_,2,.inr rfl,rfl⟩⟩;rw[HE.out,H1.out];rfl
  ·have H1:=Z h1;clear h1;go_wp2_with fail
   go_ret2
   refine⟨_,_,rfl,KK,.inr ⟨?_,1,.inl rfl,rfl⟩⟩;rw[HE.out];cases hp:bA b (s.extract 1 s.size).toList with
   |none=>rfl
   |some N=>
    have:=H1 N hp;rw[Option.bind_some,if_neg (by omega)]
 have q45:(((s[0]'hp).toNat:Int) ==45)=false:=by simpa using h45
 have HE:=Z (rU (b:=b) hp (by rw[HB0.out];exact h43) (by rw[HB0.out];exact h45));clear h45 h43;go_enter func131,ntmps131;go_wp2_with fail;refine(HPU s w hs).mono ?_;rintro e w2 ⟨v,ev,rfl,kk,hh⟩;have KK:=Z kk;clear kk;rcases hh with⟨N,h1,h2,hvN,rfl⟩|⟨rfl,rfl,h1⟩|⟨rfl,rfl,h1⟩
 ·have H1:=Z h1;clear h1;have hn0:(0:Int)≤v:=by omega
  have hn1:v<4294967296:=by omega
  have HVN:=Z hvN;by_cases hbig:N<2147483648
  ·have hbig2:¬v≥2147483648:=by omega
   clear hvN;go_wp2_with fail
   go_ret2
   refine⟨v,_,rfl,KK,.inl ⟨?_,rfl⟩⟩;rw[HE.out,H1.out,Option.bind_some,if_pos hbig,HVN.out]
  ·have hbig2:v≥2147483648:=by omega
   clear hvN;go_wp2_with fail
   go_ret2
   refine⟨_,_,rfl,KK,.inr ⟨?_,1,.inl rfl,rfl⟩⟩;rw[HE.out,H1.out,Option.bind_some,if_neg hbig]
 ·have H1:=Z h1;clear h1;go_wp2_with fail
  go_ret2
  refine⟨_,_,rfl,KK,.inr ⟨?_,2,.inr rfl,rfl⟩⟩;rw[HE.out,H1.out];rfl
 ·have H1:=Z h1;clear h1;go_wp2_with fail
  go_ret2
  refine⟨_,_,rfl,KK,.inr ⟨?_,1,.inl rfl,rfl⟩⟩;rw[HE.out];cases hp:bA b s.toList with
  |none=>rfl
  |some N=>
   have:=H1 N hp;rw[Option.bind_some,if_neg (by omega)]
def xY(s:ByteArray)(b:Nat)(w:World)(e:Ending)(w':World):Prop:=
 ∃ (v:Int) (ev:Value),e= .returned (.tuple #[.int .i64 v,ev])∧Keep w w'∧((cG b s.toList=some v∧ev= .nilIface)∨(cG b s.toList=none∧∃T a,ev= .iface T a))
theorem dd(s:ByteArray)(b:Nat)(hb:b=8∨b=16)(w:World)(hs:s.size≤100000)(hg:SG w):
  Calls prog 100 #[.string s,.int .i64 b,.int .i64 32] w (xY s b w):=by
 have hp:Calls prog 131 #[.string s,.int .i64 b,.int .i64 32] w (zJ s b w):=by
  rcases hb with rfl|rfl
  ·exact ie s 8 w hs fun d w hd=>uq d hd w
  ·exact ie s 16 w hs fun d w hd=>rP d hd w
 have HP:=Z hp;have HG:=Z hg;clear hp hg;go_enter func100,ntmps100;go_wp2_with fail;refine HP.mono ?_;rintro e w2 ⟨v,ev,rfl,kk,hh⟩;have KK:=Z kk;clear kk;rcases hh with⟨h1,rfl⟩|⟨h1,k,hk,rfl⟩
 ·have H1:=Z h1;clear h1;go_wp2_with fail
  go_ret2
  exact⟨_,_,rfl,KK,.inl ⟨H1,rfl⟩⟩
 ·have H1:=Z h1;clear h1;go_wp2_with (go_at_call 132;refine(dB _ s _ 32 k hk _ hs (HG.keep KK)).mono ?_;rintro e w3 ⟨M,rfl,k3⟩)
  go_ret2
  exact⟨_,_,rfl,KK.trans k3,.inr ⟨H1,_,_,rfl⟩⟩
end Go.Proofs.YtnclklfhjbkjhaaGreatDoor
