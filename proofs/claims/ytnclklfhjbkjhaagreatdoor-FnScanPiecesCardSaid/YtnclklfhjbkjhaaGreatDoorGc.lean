/- Part of the proof: G3. -/
import Derived.Test.YtnclklfhjbkjhaaGreatDoorGa
import Derived.Test.YtnclklfhjbkjhaaGreatDoorFa
import Derived.Lib.ConvBytes
import Derived.Lib.AtoiAllMem
import Derived.Laws.Strings3
import Derived.Laws.Closers25
import Derived.Laws.Closers25b
import Derived.BigCall
import Derived.BigGuard
import Derived.Laws.BitsAllLaws
set_option maxRecDepth 1000000
set_option maxHeartbeats 40000000
namespace Go.Proofs.YtnclklfhjbkjhaaGreatDoor
open Tryz
open Go.RowKit
def xX(s:ByteArray)(b lim:Nat)(w:World)(e:Ending)(w':World):Prop:=
 ∃ (v:Int) (ev:Value),e= .returned (.tuple #[.int .u64 v,ev])∧Keep w w'∧
  ((∃N:Nat,bA b s.toList=some N∧N<lim∧v=(N:Int)∧ev= .nilIface)∨(ev= .iface 218 (.int .i64 2)∧v=0∧bA b s.toList=none)∨(ev= .iface 218 (.int .i64 1)∧v=(lim:Int) -1∧∀N,bA b s.toList=some N→lim≤N))
theorem gj{b:Nat}{s:ByteArray}{N:Nat}(h0:¬s.size=0)(h:ay b s.toList 0=some N):bA b s.toList=some N:=by
 unfold bA;rw[if_neg]
 ·exact h
 ·intro e;apply h0;have:=congrArg List.length e;rw[qi] at this;exact this
theorem lz{b:Nat}{s:ByteArray}:bA b s.toList=none∨bA b s.toList=ay b s.toList 0:=by
 unfold bA;split
 ·exact .inl rfl
 ·exact .inr rfl
theorem kq{b:Nat}(hb:0<b):∀ (l:List UInt8) (m v:Nat),ay b l m=some v→m≤v
 | [],m,v,h=>by simp only[ay,Option.some.injEq] at h;omega
 |c::l,m,v,h=>by
  unfold ay at h;split at h
  ·cases h
  ·split at h
   ·have:=kq hb l _ _ h;have:m*1≤m*b:=Nat.mul_le_mul_left _ hb;omega
   ·cases h
theorem dD{b acc dn:Nat}{c:UInt8}{r:List UInt8}{x:Option Nat}(h:x=ay b (c::r) acc)(hd:gC c=some dn)(hb:dn<b):x=ay b r (acc*b+dn):=by
 rw[h]
 conv=>lhs;unfold ay
 rw[hd];simp only;rw[if_pos hb]
theorem cW{b acc dn L:Nat}{s:ByteArray}{c:UInt8}{r:List UInt8}(h:ay b s.toList 0=ay b (c::r) acc)(hd:gC c=some dn)(hb:dn<b)(hL:L≤acc*b+dn):∀N,bA b s.toList=some N→L≤N:=by
 intro N hN;rcases lz (b:=b) (s:=s) with e|e
 ·rw[e] at hN;cases hN
 ·rw[e,dD h hd hb] at hN;have:=kq (by omega) _ _ _ hN;omega
theorem dI{b acc dn:Nat}{s:ByteArray}{c:UInt8}{r:List UInt8}(h:ay b s.toList 0=ay b (c::r) acc)(hd:gC c=some dn)(hb:b≤dn):bA b s.toList=none:=by
 rcases lz (b:=b) (s:=s) with e|e
 ·exact e
 ·rw[e,h];unfold ay;rw[hd];simp only;rw[if_neg (by omega)]
theorem gh{b acc:Nat}{s:ByteArray}{c:UInt8}{r:List UInt8}(h:ay b s.toList 0=ay b (c::r) acc)(hd:gC c=none):bA b s.toList=none:=by
 rcases lz (b:=b) (s:=s) with e|e
 ·exact e
 ·rw[e,h];unfold ay;rw[hd]
theorem gB(c:UInt8)(h:48≤c.toNat∧c.toNat≤57):gC c=some (c.toNat-48):=by
 unfold gC;rw[if_pos (by simp only[UInt8.le_iff_toNat_le];exact h)]
theorem jy(c:UInt8)(h:¬ (48≤c.toNat∧c.toNat≤57))(h2:¬ ((97≤c.toNat∧c.toNat≤122)∨(65≤c.toNat∧c.toNat≤90))):gC c=none:=by
 unfold gC;rw[if_neg (by simp only[UInt8.le_iff_toNat_le];exact h),if_neg (by simp only[UInt8.le_iff_toNat_le];exact fun e=>h2 (.inl e)),if_neg (by simp only[UInt8.le_iff_toNat_le];exact fun e=>h2 (.inr e))]
theorem mO:∀n:Fin 256,(97≤n.1∧n.1≤122→n.1|||32=n.1)∧(65≤n.1∧n.1≤90→n.1|||32=n.1+32)∧(¬ ((97≤n.1∧n.1≤122)∨(65≤n.1∧n.1≤90))→¬ (97≤n.1|||32∧n.1|||32≤122)):=by decide
theorem eO(c:UInt8)(h:(97≤c.toNat∧c.toNat≤122)∨(65≤c.toNat∧c.toNat≤90)):∃l:Int,bits .or .u8 (c.toNat:Int) 32=l∧(97≤l∧l≤122)∧gC c=some (l-87).toNat:=by
 have hc:=c.toNat_lt;have e:bits .or .u8 (c.toNat:Int) 32=((c.toNat|||32:Nat):Int):=u8_or_nat c.toNat 32 hc (by decide);have k:=mO ⟨c.toNat,hc⟩;simp only at k;refine⟨_,rfl,?_⟩;rw[e];rcases h with h|h
 ·rw[k.1 h];refine⟨by omega,?_⟩;unfold gC;rw[if_neg (by simp only[UInt8.le_iff_toNat_le];show ¬ (48≤c.toNat∧c.toNat≤57);omega),if_pos (by simp only[UInt8.le_iff_toNat_le];exact h)];congr 1;omega
 ·rw[k.2.1 h];refine⟨by omega,?_⟩;unfold gC;rw[if_neg (by simp only[UInt8.le_iff_toNat_le];show ¬ (48≤c.toNat∧c.toNat≤57);omega),if_neg (by simp only[UInt8.le_iff_toNat_le];show ¬ (97≤c.toNat∧c.toNat≤122);omega),if_pos (by simp only[UInt8.le_iff_toNat_le];exact h)];congr 1;omega
theorem gm(c:UInt8)(h:¬ ((97≤c.toNat∧c.toNat≤122)∨(65≤c.toNat∧c.toNat≤90))):∃l:Int,bits .or .u8 (c.toNat:Int) 32=l∧¬ (97≤l∧l≤122):=by
 have hc:=c.toNat_lt;have e:bits .or .u8 (c.toNat:Int) 32=((c.toNat|||32:Nat):Int):=u8_or_nat c.toNat 32 hc (by decide);have k:=(mO ⟨c.toNat,hc⟩).2.2 h;simp only at k;exact⟨_,rfl,by rw[e];omega⟩
theorem iY(s:ByteArray)(w:World)(hne:¬s.size=0):s.toList.isEmpty=false∧∃W1,(convert 9 117 (.string s)).run prog w= .ok (.slice (some ⟨w.heap.size,0,none⟩) s.size (grownCap w s.size 0 5)) W1∧
  RowKit.Hid (Keep w W1)∧RowKit.Hid (∀j,j<s.size→W1.cell? ⟨w.heap.size,j,none⟩=some (.int .u8 (s.data.toList.getD j 0).toNat)):=by
 have hemp:s.toList.isEmpty=false:=by
  rw[←decide_eq_emptyBytes];exact decide_eq_false (fun h=>hne (by rw[h];rfl))
 have hcv:=Lib.run_convert_string_bytes (P:=prog) w 9 117 5 s (u:= .string) (by kernel_rfl) (by kernel_rfl) (by kernel_rfl);have hB:∀j,j<s.size→(Lib.bytesWorld w 5 s).cell? ⟨w.heap.size,j,none⟩=some (.int .u8 (s.data.toList.getD j 0).toNat):=fun j hj=>Lib.bytesWorld_cell w 5 s j hj
 have hK:Keep w (Lib.bytesWorld w 5 s):=⟨rfl,rfl,rfl,by rw[Lib.bytesWorld_size];omega,fun k hk _=>Lib.bytesWorld_at_old w 5 s k hk⟩;obtain⟨W1,hW1⟩:∃W1,W1=Lib.bytesWorld w 5 s:=⟨_,rfl⟩;rw[←hW1] at hcv hB hK;have KP:=Z hK;have HBB:=Z hB;clear hW1 hK hB;exact⟨hemp,W1,hcv,KP,HBB⟩
theorem uo(s:ByteArray)(hs:s.size≤100000)(w:World):
  Calls prog 139 #[.string s,.int .i64 8,.int .i64 64] w (xX s 8 18446744073709551616 w):=by
 by_cases hne:s.size=0
 ·have hs0:s=⟨#[]⟩:=by
   apply ByteArray.ext;exact Array.eq_empty_of_size_eq_zero hne
  subst hs0;go_enter func139,ntmps139;go_wp2
  go_ret2
  exact⟨_,_,rfl,Fr.refl w,.inr (.inl ⟨rfl,rfl,by rw[qp];rfl⟩)⟩
 obtain⟨hemp,W1,hcv,KP,HBB⟩:=iY s w hne;have HNE:=Z hne;clear hne;have hmv:IntKind.u64.wrap (IntKind.u64.wrap 18446744073709551616-1)=18446744073709551615:=by
  rw[IntKind.wrap_u64,IntKind.wrap_u64];decide
 go_enter func139,ntmps139;go_wp2
 go_loop [12,13,101] (fun vu vn vi=>∃ (k acc:Nat) (a:Int),vu= .bool false∧vn= .int .u64 a∧vi= .int .i64 k∧k≤s.size∧Hid (a=(acc:Int)∧acc<18446744073709551616∧ay 8 s.toList 0=ay 8 (s.toList.drop k) acc))
  (fun _ _ vi=>s.size-br vi)
 case atStart=>exact⟨0,0,0,rfl,rfl,rfl,Nat.zero_le _,Z ⟨rfl,by decide,rfl⟩⟩
 case round=>
  obtain⟨k,acc,a,rfl,rfl,rfl,hk,hh⟩:=hrel;obtain⟨ha,hacc,hgo⟩:=hh.out;clear hh;have a0:0≤a:=by omega
  have a1:a<18446744073709551616:=by omega
  by_cases hkn:k<s.size
  ·have hc:=HBB k hkn;have hl:k<s.toList.length:=by rw[qi];exact hkn
   have hget:s.data.toList.getD k 0=s.toList[k]'hl:=by
    rw[List.getD_eq_getElem?_getD,←qi,List.getElem?_eq_getElem hl];rfl
   rw[List.drop_eq_getElem_cons hl] at hgo;rw[hget] at hc;generalize s.toList[k]'hl=c at hc hgo;have hc256:c.toNat<256:=c.toNat_lt;clear hget hl;by_cases hdig:48≤c.toNat∧c.toNat≤57
   ·obtain⟨hd0,hd1⟩:=hdig;obtain⟨dn,hdn⟩:∃dn,dn=c.toNat-48:=⟨_,rfl⟩;have HDG:=Z (show gC c=some dn by rw[hdn];exact gB c ⟨hd0,hd1⟩);have hD:(dn:Int)=(c.toNat:Int) -48:=by omega
    clear hdn;by_cases hdb:dn<8
    ·have hdz:¬ (c.toNat:Int) -48≥8:=by omega
     have hdz':(c.toNat:Int) -48<8:=by omega
     by_cases hcut:2305843009213693952≤acc
     ·have icut:2305843009213693952≤a:=by omega
      have HR:=Z (cW (b:=8) (L:=18446744073709551616) hgo HDG hdb (by omega));clear hcut hacc ha;go_wp2_with (go_at_call 157;refine(am _ _).mono ?_;rintro e w' ⟨rfl,rfl⟩)
      all_goals
       go_ret2
       exact⟨_,_,rfl,KP,.inr (.inr ⟨rfl,rfl,HR⟩)⟩
     have hov:¬18446744073709551616≤acc*8+dn:=by omega
     have icut:a<2305843009213693952:=by omega
     have iov:a*8+((c.toNat:Int) -48) <18446744073709551616:=by omega
     have iov3:¬a*8+((c.toNat:Int) -48) <a:=by omega
     have HN:=Z (show a*8+((c.toNat:Int) -48)=((acc*8+dn:Nat):Int)∧acc*8+dn<18446744073709551616∧ay 8 s.toList 0=ay 8 (s.toList.drop (k+1)) (acc*8+dn) from⟨by omega,by omega,dD hgo HDG hdb⟩);clear hcut hacc hov ha hgo;go_wp2_with (go_at_call 157;refine(am _ _).mono ?_;rintro e w' ⟨rfl,rfl⟩)
     all_goals refine⟨⟨k+1,acc*8+dn,a*8+((c.toNat:Int) -48),rfl,(by first|rfl|(congr 1;omega)),(by first|rfl|(congr 1;omega)),by omega,HN⟩,by simp only[br];omega⟩
    ·have hdz:(c.toNat:Int) -48≥8:=by omega
     have HS:=Z (dI hgo HDG (by omega:8≤dn));clear hacc ha;go_wp2_with (go_at_call 157;refine(am _ _).mono ?_;rintro e w' ⟨rfl,rfl⟩)
     all_goals
      go_ret2
      exact⟨_,_,rfl,KP,.inr (.inl ⟨rfl,rfl,HS⟩)⟩
   ·by_cases hlet:(97≤c.toNat∧c.toNat≤122)∨(65≤c.toNat∧c.toNat≤90)
    ·obtain⟨l,hl1,hl2,hl3⟩:∃l:Int,bits .or .u8 (c.toNat:Int) 32=l∧(97≤l∧l≤122)∧gC c=some (l-87).toNat:=eO c hlet;obtain⟨hl4,hl5⟩:=hl2;obtain⟨dn,hdn⟩:∃dn,dn=(l-87).toNat:=⟨_,rfl⟩;have HDG:=Z (show gC c=some dn by rw[hdn];exact hl3);have hD:(dn:Int)=l-97+10:=by omega
     have h95:((c.toNat:Int) ==95)=false:=bf (by omega);clear hdn hl3 hlet;have hdb:¬dn<8:=by omega
     have hdz:l-97+10≥8:=by omega
     have HS:=Z (dI hgo HDG (by omega:8≤dn));clear hacc ha;go_wp2_with (go_at_call 157;refine(am _ _).mono ?_;rintro e w' ⟨rfl,rfl⟩)
     all_goals
      go_ret2
      exact⟨_,_,rfl,KP,.inr (.inl ⟨rfl,rfl,HS⟩)⟩
    ·have HS:=Z (gh (b:=8) hgo (jy c hdig hlet));obtain⟨l,hl1,hl2⟩:∃l:Int,bits .or .u8 (c.toNat:Int) 32=l∧¬ (97≤l∧l≤122):=gm c hlet;clear hacc ha hlet;by_cases hl97:97≤l
     ·have hl122:¬l≤122:=by omega
      go_wp2_with (go_at_call 157;refine(am _ _).mono ?_;rintro e w' ⟨rfl,rfl⟩)
      all_goals
       go_ret2
       exact⟨_,_,rfl,KP,.inr (.inl ⟨rfl,rfl,HS⟩)⟩
     ·go_wp2_with (go_at_call 157;refine(am _ _).mono ?_;rintro e w' ⟨rfl,rfl⟩)
      all_goals
       go_ret2
       exact⟨_,_,rfl,KP,.inr (.inl ⟨rfl,rfl,HS⟩)⟩
  ·have hkk:k=s.size:=by omega
   subst hkk;have hfin:ay 8 s.toList 0=some acc:=by rw[hgo,List.drop_eq_nil_of_le (by rw[qi];exact Nat.le_refl _)];rfl
   have HF:=Z hfin;have HAC:=Z hacc;have HA:=Z ha;clear hacc a0 a1 hfin hgo ha;go_wp2
   go_ret2
   exact⟨_,_,rfl,KP,.inl ⟨acc,gj HNE HF,HAC,HA,rfl⟩⟩
theorem rQ(s:ByteArray)(hs:s.size≤100000)(w:World):
  Calls prog 139 #[.string s,.int .i64 10,.int .i64 64] w (xX s 10 18446744073709551616 w):=by
 by_cases hne:s.size=0
 ·have hs0:s=⟨#[]⟩:=by
   apply ByteArray.ext;exact Array.eq_empty_of_size_eq_zero hne
  subst hs0;go_enter func139,ntmps139;go_wp2
  go_ret2
  exact⟨_,_,rfl,Fr.refl w,.inr (.inl ⟨rfl,rfl,by rw[qp];rfl⟩)⟩
 obtain⟨hemp,W1,hcv,KP,HBB⟩:=iY s w hne;have HNE:=Z hne;clear hne;have hmv:IntKind.u64.wrap (IntKind.u64.wrap 18446744073709551616-1)=18446744073709551615:=by
  rw[IntKind.wrap_u64,IntKind.wrap_u64];decide
 go_enter func139,ntmps139;go_wp2
 go_loop [12,13,101] (fun vu vn vi=>∃ (k acc:Nat) (a:Int),vu= .bool false∧vn= .int .u64 a∧vi= .int .i64 k∧k≤s.size∧Hid (a=(acc:Int)∧acc<18446744073709551616∧ay 10 s.toList 0=ay 10 (s.toList.drop k) acc))
  (fun _ _ vi=>s.size-br vi)
 case atStart=>exact⟨0,0,0,rfl,rfl,rfl,Nat.zero_le _,Z ⟨rfl,by decide,rfl⟩⟩
 case round=>
  obtain⟨k,acc,a,rfl,rfl,rfl,hk,hh⟩:=hrel;obtain⟨ha,hacc,hgo⟩:=hh.out;clear hh;have a0:0≤a:=by omega
  have a1:a<18446744073709551616:=by omega
  by_cases hkn:k<s.size
  ·have hc:=HBB k hkn;have hl:k<s.toList.length:=by rw[qi];exact hkn
   have hget:s.data.toList.getD k 0=s.toList[k]'hl:=by
    rw[List.getD_eq_getElem?_getD,←qi,List.getElem?_eq_getElem hl];rfl
   rw[List.drop_eq_getElem_cons hl] at hgo;rw[hget] at hc;generalize s.toList[k]'hl=c at hc hgo;have hc256:c.toNat<256:=c.toNat_lt;clear hget hl;by_cases hdig:48≤c.toNat∧c.toNat≤57
   ·obtain⟨hd0,hd1⟩:=hdig;obtain⟨dn,hdn⟩:∃dn,dn=c.toNat-48:=⟨_,rfl⟩;have HDG:=Z (show gC c=some dn by rw[hdn];exact gB c ⟨hd0,hd1⟩);have hD:(dn:Int)=(c.toNat:Int) -48:=by omega
    clear hdn;by_cases hdb:dn<10
    ·have hdz:¬ (c.toNat:Int) -48≥10:=by omega
     have hdz':(c.toNat:Int) -48<10:=by omega
     by_cases hcut:1844674407370955162≤acc
     ·have icut:1844674407370955162≤a:=by omega
      have HR:=Z (cW (b:=10) (L:=18446744073709551616) hgo HDG hdb (by omega));clear hcut hacc ha;go_wp2_with (go_at_call 157;refine(am _ _).mono ?_;rintro e w' ⟨rfl,rfl⟩)
      all_goals
       go_ret2
       exact⟨_,_,rfl,KP,.inr (.inr ⟨rfl,rfl,HR⟩)⟩
     by_cases hov:18446744073709551616≤acc*10+dn
     ·have icut:a<1844674407370955162:=by omega
      have iov:18446744073709551616≤a*10+((c.toNat:Int) -48):=by omega
      have hwr:IntKind.u64.wrap (a*10+((c.toNat:Int) -48))=a*10+((c.toNat:Int) -48) -18446744073709551616:=by
       rw[IntKind.wrap_u64];omega
      have HR:=Z (cW (b:=10) (L:=18446744073709551616) hgo HDG hdb hov);clear hcut hacc hov ha;go_wp2_with (go_at_call 157;refine(am _ _).mono ?_;rintro e w' ⟨rfl,rfl⟩)
      all_goals
       go_ret2
       exact⟨_,_,rfl,KP,.inr (.inr ⟨rfl,rfl,HR⟩)⟩
     have icut:a<1844674407370955162:=by omega
     have iov:a*10+((c.toNat:Int) -48) <18446744073709551616:=by omega
     have iov3:¬a*10+((c.toNat:Int) -48) <a:=by omega
     have HN:=Z (show a*10+((c.toNat:Int) -48)=((acc*10+dn:Nat):Int)∧acc*10+dn<18446744073709551616∧ay 10 s.toList 0=ay 10 (s.toList.drop (k+1)) (acc*10+dn) from⟨by omega,by omega,dD hgo HDG hdb⟩);clear hcut hacc hov ha hgo;go_wp2_with (go_at_call 157;refine(am _ _).mono ?_;rintro e w' ⟨rfl,rfl⟩)
     all_goals refine⟨⟨k+1,acc*10+dn,a*10+((c.toNat:Int) -48),rfl,(by first|rfl|(congr 1;omega)),(by first|rfl|(congr 1;omega)),by omega,HN⟩,by simp only[br];omega⟩
    ·have hdz:(c.toNat:Int) -48≥10:=by omega
     have HS:=Z (dI hgo HDG (by omega:10≤dn));clear hacc ha;go_wp2_with (go_at_call 157;refine(am _ _).mono ?_;rintro e w' ⟨rfl,rfl⟩)
     all_goals
      go_ret2
      exact⟨_,_,rfl,KP,.inr (.inl ⟨rfl,rfl,HS⟩)⟩
   ·by_cases hlet:(97≤c.toNat∧c.toNat≤122)∨(65≤c.toNat∧c.toNat≤90)
    ·obtain⟨l,hl1,hl2,hl3⟩:∃l:Int,bits .or .u8 (c.toNat:Int) 32=l∧(97≤l∧l≤122)∧gC c=some (l-87).toNat:=eO c hlet;obtain⟨hl4,hl5⟩:=hl2;obtain⟨dn,hdn⟩:∃dn,dn=(l-87).toNat:=⟨_,rfl⟩;have HDG:=Z (show gC c=some dn by rw[hdn];exact hl3);have hD:(dn:Int)=l-97+10:=by omega
     have h95:((c.toNat:Int) ==95)=false:=bf (by omega);clear hdn hl3 hlet;have hdb:¬dn<10:=by omega
     have hdz:l-97+10≥10:=by omega
     have HS:=Z (dI hgo HDG (by omega:10≤dn));clear hacc ha;go_wp2_with (go_at_call 157;refine(am _ _).mono ?_;rintro e w' ⟨rfl,rfl⟩)
     all_goals
      go_ret2
      exact⟨_,_,rfl,KP,.inr (.inl ⟨rfl,rfl,HS⟩)⟩
    ·have HS:=Z (gh (b:=10) hgo (jy c hdig hlet));obtain⟨l,hl1,hl2⟩:∃l:Int,bits .or .u8 (c.toNat:Int) 32=l∧¬ (97≤l∧l≤122):=gm c hlet;clear hacc ha hlet;by_cases hl97:97≤l
     ·have hl122:¬l≤122:=by omega
      go_wp2_with (go_at_call 157;refine(am _ _).mono ?_;rintro e w' ⟨rfl,rfl⟩)
      all_goals
       go_ret2
       exact⟨_,_,rfl,KP,.inr (.inl ⟨rfl,rfl,HS⟩)⟩
     ·go_wp2_with (go_at_call 157;refine(am _ _).mono ?_;rintro e w' ⟨rfl,rfl⟩)
      all_goals
       go_ret2
       exact⟨_,_,rfl,KP,.inr (.inl ⟨rfl,rfl,HS⟩)⟩
  ·have hkk:k=s.size:=by omega
   subst hkk;have hfin:ay 10 s.toList 0=some acc:=by rw[hgo,List.drop_eq_nil_of_le (by rw[qi];exact Nat.le_refl _)];rfl
   have HF:=Z hfin;have HAC:=Z hacc;have HA:=Z ha;clear hacc a0 a1 hfin hgo ha;go_wp2
   go_ret2
   exact⟨_,_,rfl,KP,.inl ⟨acc,gj HNE HF,HAC,HA,rfl⟩⟩
theorem rO(s:ByteArray)(hs:s.size≤100000)(w:World):
  Calls prog 139 #[.string s,.int .i64 16,.int .i64 64] w (xX s 16 18446744073709551616 w):=by
 by_cases hne:s.size=0
 ·have hs0:s=⟨#[]⟩:=by
   apply ByteArray.ext;exact Array.eq_empty_of_size_eq_zero hne
  subst hs0;go_enter func139,ntmps139;go_wp2
  go_ret2
  exact⟨_,_,rfl,Fr.refl w,.inr (.inl ⟨rfl,rfl,by rw[qp];rfl⟩)⟩
 obtain⟨hemp,W1,hcv,KP,HBB⟩:=iY s w hne;have HNE:=Z hne;clear hne;have hmv:IntKind.u64.wrap (IntKind.u64.wrap 18446744073709551616-1)=18446744073709551615:=by
  rw[IntKind.wrap_u64,IntKind.wrap_u64];decide
 go_enter func139,ntmps139;go_wp2
 go_loop [12,13,101] (fun vu vn vi=>∃ (k acc:Nat) (a:Int),vu= .bool false∧vn= .int .u64 a∧vi= .int .i64 k∧k≤s.size∧Hid (a=(acc:Int)∧acc<18446744073709551616∧ay 16 s.toList 0=ay 16 (s.toList.drop k) acc))
  (fun _ _ vi=>s.size-br vi)
 case atStart=>exact⟨0,0,0,rfl,rfl,rfl,Nat.zero_le _,Z ⟨rfl,by decide,rfl⟩⟩
 case round=>
  obtain⟨k,acc,a,rfl,rfl,rfl,hk,hh⟩:=hrel;obtain⟨ha,hacc,hgo⟩:=hh.out;clear hh;have a0:0≤a:=by omega
  have a1:a<18446744073709551616:=by omega
  by_cases hkn:k<s.size
  ·have hc:=HBB k hkn;have hl:k<s.toList.length:=by rw[qi];exact hkn
   have hget:s.data.toList.getD k 0=s.toList[k]'hl:=by
    rw[List.getD_eq_getElem?_getD,←qi,List.getElem?_eq_getElem hl];rfl
   rw[List.drop_eq_getElem_cons hl] at hgo;rw[hget] at hc;generalize s.toList[k]'hl=c at hc hgo;have hc256:c.toNat<256:=c.toNat_lt;clear hget hl;by_cases hdig:48≤c.toNat∧c.toNat≤57
   ·obtain⟨hd0,hd1⟩:=hdig;obtain⟨dn,hdn⟩:∃dn,dn=c.toNat-48:=⟨_,rfl⟩;have HDG:=Z (show gC c=some dn by rw[hdn];exact gB c ⟨hd0,hd1⟩);have hD:(dn:Int)=(c.toNat:Int) -48:=by omega
    clear hdn;by_cases hdb:dn<16
    ·have hdz:¬ (c.toNat:Int) -48≥16:=by omega
     have hdz':(c.toNat:Int) -48<16:=by omega
     by_cases hcut:1152921504606846976≤acc
     ·have icut:1152921504606846976≤a:=by omega
      have HR:=Z (cW (b:=16) (L:=18446744073709551616) hgo HDG hdb (by omega));clear hcut hacc ha;go_wp2_with (go_at_call 157;refine(am _ _).mono ?_;rintro e w' ⟨rfl,rfl⟩)
      all_goals
       go_ret2
       exact⟨_,_,rfl,KP,.inr (.inr ⟨rfl,rfl,HR⟩)⟩
     have hov:¬18446744073709551616≤acc*16+dn:=by omega
     have icut:a<1152921504606846976:=by omega
     have iov:a*16+((c.toNat:Int) -48) <18446744073709551616:=by omega
     have iov3:¬a*16+((c.toNat:Int) -48) <a:=by omega
     have HN:=Z (show a*16+((c.toNat:Int) -48)=((acc*16+dn:Nat):Int)∧acc*16+dn<18446744073709551616∧ay 16 s.toList 0=ay 16 (s.toList.drop (k+1)) (acc*16+dn) from⟨by omega,by omega,dD hgo HDG hdb⟩);clear hcut hacc hov ha hgo;go_wp2_with (go_at_call 157;refine(am _ _).mono ?_;rintro e w' ⟨rfl,rfl⟩)
     all_goals refine⟨⟨k+1,acc*16+dn,a*16+((c.toNat:Int) -48),rfl,(by first|rfl|(congr 1;omega)),(by first|rfl|(congr 1;omega)),by omega,HN⟩,by simp only[br];omega⟩
    ·have hdz:(c.toNat:Int) -48≥16:=by omega
     have HS:=Z (dI hgo HDG (by omega:16≤dn));clear hacc ha;go_wp2_with (go_at_call 157;refine(am _ _).mono ?_;rintro e w' ⟨rfl,rfl⟩)
     all_goals
      go_ret2
      exact⟨_,_,rfl,KP,.inr (.inl ⟨rfl,rfl,HS⟩)⟩
   ·by_cases hlet:(97≤c.toNat∧c.toNat≤122)∨(65≤c.toNat∧c.toNat≤90)
    ·obtain⟨l,hl1,hl2,hl3⟩:∃l:Int,bits .or .u8 (c.toNat:Int) 32=l∧(97≤l∧l≤122)∧gC c=some (l-87).toNat:=eO c hlet;obtain⟨hl4,hl5⟩:=hl2;obtain⟨dn,hdn⟩:∃dn,dn=(l-87).toNat:=⟨_,rfl⟩;have HDG:=Z (show gC c=some dn by rw[hdn];exact hl3);have hD:(dn:Int)=l-97+10:=by omega
     have h95:((c.toNat:Int) ==95)=false:=bf (by omega);clear hdn hl3 hlet;by_cases hdb:dn<16
     ·have hdz:¬l-97+10≥16:=by omega
      have hdz':l-97+10<16:=by omega
      by_cases hcut:1152921504606846976≤acc
      ·have icut:1152921504606846976≤a:=by omega
       have HR:=Z (cW (b:=16) (L:=18446744073709551616) hgo HDG hdb (by omega));clear hcut hacc ha;go_wp2_with (go_at_call 157;refine(am _ _).mono ?_;rintro e w' ⟨rfl,rfl⟩)
       all_goals
        go_ret2
        exact⟨_,_,rfl,KP,.inr (.inr ⟨rfl,rfl,HR⟩)⟩
      have hov:¬18446744073709551616≤acc*16+dn:=by omega
      have icut:a<1152921504606846976:=by omega
      have iov:a*16+(l-97+10) <18446744073709551616:=by omega
      have iov3:¬a*16+(l-97+10) <a:=by omega
      have HN:=Z (show a*16+(l-97+10)=((acc*16+dn:Nat):Int)∧acc*16+dn<18446744073709551616∧ay 16 s.toList 0=ay 16 (s.toList.drop (k+1)) (acc*16+dn) from⟨by omega,by omega,dD hgo HDG hdb⟩);clear hcut hacc hov ha hgo;go_wp2_with (go_at_call 157;refine(am _ _).mono ?_;rintro e w' ⟨rfl,rfl⟩)
      all_goals refine⟨⟨k+1,acc*16+dn,a*16+(l-97+10),rfl,(by first|rfl|(congr 1;omega)),(by first|rfl|(congr 1;omega)),by omega,HN⟩,by simp only[br];omega⟩
     ·have hdz:l-97+10≥16:=by omega
      have HS:=Z (dI hgo HDG (by omega:16≤dn));clear hacc ha;go_wp2_with (go_at_call 157;refine(am _ _).mono ?_;rintro e w' ⟨rfl,rfl⟩)
      all_goals
       go_ret2
       exact⟨_,_,rfl,KP,.inr (.inl ⟨rfl,rfl,HS⟩)⟩
    ·have HS:=Z (gh (b:=16) hgo (jy c hdig hlet));obtain⟨l,hl1,hl2⟩:∃l:Int,bits .or .u8 (c.toNat:Int) 32=l∧¬ (97≤l∧l≤122):=gm c hlet;clear hacc ha hlet;by_cases hl97:97≤l
     ·have hl122:¬l≤122:=by omega
      go_wp2_with (go_at_call 157;refine(am _ _).mono ?_;rintro e w' ⟨rfl,rfl⟩)
      all_goals
       go_ret2
       exact⟨_,_,rfl,KP,.inr (.inl ⟨rfl,rfl,HS⟩)⟩
     ·go_wp2_with (go_at_call 157;refine(am _ _).mono ?_;rintro e w' ⟨rfl,rfl⟩)
      all_goals
       go_ret2
       exact⟨_,_,rfl,KP,.inr (.inl ⟨rfl,rfl,HS⟩)⟩
  ·have hkk:k=s.size:=by omega
   subst hkk;have hfin:ay 16 s.toList 0=some acc:=by rw[hgo,List.drop_eq_nil_of_le (by rw[qi];exact Nat.le_refl _)];rfl
   have HF:=Z hfin;have HAC:=Z hacc;have HA:=Z ha;clear hacc a0 a1 hfin hgo ha;go_wp2
   go_ret2
   exact⟨_,_,rfl,KP,.inl ⟨acc,gj HNE HF,HAC,HA,rfl⟩⟩
theorem uq(s:ByteArray)(hs:s.size≤100000)(w:World):
  Calls prog 139 #[.string s,.int .i64 8,.int .i64 32] w (xX s 8 4294967296 w):=by
 by_cases hne:s.size=0
 ·have hs0:s=⟨#[]⟩:=by
   apply ByteArray.ext;exact Array.eq_empty_of_size_eq_zero hne
  subst hs0;go_enter func139,ntmps139;go_wp2
  go_ret2
  exact⟨_,_,rfl,Fr.refl w,.inr (.inl ⟨rfl,rfl,by rw[qp];rfl⟩)⟩
 obtain⟨hemp,W1,hcv,KP,HBB⟩:=iY s w hne;have HNE:=Z hne;clear hne;go_enter func139,ntmps139;go_wp2
 go_loop [12,13,101] (fun vu vn vi=>∃ (k acc:Nat) (a:Int),vu= .bool false∧vn= .int .u64 a∧vi= .int .i64 k∧k≤s.size∧Hid (a=(acc:Int)∧acc<4294967296∧ay 8 s.toList 0=ay 8 (s.toList.drop k) acc))
  (fun _ _ vi=>s.size-br vi)
 case atStart=>exact⟨0,0,0,rfl,rfl,rfl,Nat.zero_le _,Z ⟨rfl,by decide,rfl⟩⟩
 case round=>
  obtain⟨k,acc,a,rfl,rfl,rfl,hk,hh⟩:=hrel;obtain⟨ha,hacc,hgo⟩:=hh.out;clear hh;have a0:0≤a:=by omega
  have a1:a<4294967296:=by omega
  by_cases hkn:k<s.size
  ·have hc:=HBB k hkn;have hl:k<s.toList.length:=by rw[qi];exact hkn
   have hget:s.data.toList.getD k 0=s.toList[k]'hl:=by
    rw[List.getD_eq_getElem?_getD,←qi,List.getElem?_eq_getElem hl];rfl
   rw[List.drop_eq_getElem_cons hl] at hgo;rw[hget] at hc;generalize s.toList[k]'hl=c at hc hgo;have hc256:c.toNat<256:=c.toNat_lt;clear hget hl;by_cases hdig:48≤c.toNat∧c.toNat≤57
   ·obtain⟨hd0,hd1⟩:=hdig;obtain⟨dn,hdn⟩:∃dn,dn=c.toNat-48:=⟨_,rfl⟩;have HDG:=Z (show gC c=some dn by rw[hdn];exact gB c ⟨hd0,hd1⟩);have hD:(dn:Int)=(c.toNat:Int) -48:=by omega
    clear hdn;by_cases hdb:dn<8
    ·have hdz:¬ (c.toNat:Int) -48≥8:=by omega
     have hdz':(c.toNat:Int) -48<8:=by omega
     have hcut:¬2305843009213693952≤acc:=by omega
     by_cases hov:4294967296≤acc*8+dn
     ·have icut:a<2305843009213693952:=by omega
      have iov:4294967296≤a*8+((c.toNat:Int) -48):=by omega
      have iov2:a*8+((c.toNat:Int) -48) <18446744073709551616:=by omega
      have iov3:¬a*8+((c.toNat:Int) -48) <a:=by omega
      have HR:=Z (cW (b:=8) (L:=4294967296) hgo HDG hdb hov);clear hcut hacc hov ha;go_wp2_with (go_at_call 157;refine(am _ _).mono ?_;rintro e w' ⟨rfl,rfl⟩)
      all_goals
       go_ret2
       exact⟨_,_,rfl,KP,.inr (.inr ⟨rfl,rfl,HR⟩)⟩
     have icut:a<2305843009213693952:=by omega
     have iov:a*8+((c.toNat:Int) -48) <4294967296:=by omega
     have iov3:¬a*8+((c.toNat:Int) -48) <a:=by omega
     have HN:=Z (show a*8+((c.toNat:Int) -48)=((acc*8+dn:Nat):Int)∧acc*8+dn<4294967296∧ay 8 s.toList 0=ay 8 (s.toList.drop (k+1)) (acc*8+dn) from⟨by omega,by omega,dD hgo HDG hdb⟩);clear hcut hacc hov ha hgo;go_wp2_with (go_at_call 157;refine(am _ _).mono ?_;rintro e w' ⟨rfl,rfl⟩)
     all_goals refine⟨⟨k+1,acc*8+dn,a*8+((c.toNat:Int) -48),rfl,(by first|rfl|(congr 1;omega)),(by first|rfl|(congr 1;omega)),by omega,HN⟩,by simp only[br];omega⟩
    ·have hdz:(c.toNat:Int) -48≥8:=by omega
     have HS:=Z (dI hgo HDG (by omega:8≤dn));clear hacc ha;go_wp2_with (go_at_call 157;refine(am _ _).mono ?_;rintro e w' ⟨rfl,rfl⟩)
     all_goals
      go_ret2
      exact⟨_,_,rfl,KP,.inr (.inl ⟨rfl,rfl,HS⟩)⟩
   ·by_cases hlet:(97≤c.toNat∧c.toNat≤122)∨(65≤c.toNat∧c.toNat≤90)
    ·obtain⟨l,hl1,hl2,hl3⟩:∃l:Int,bits .or .u8 (c.toNat:Int) 32=l∧(97≤l∧l≤122)∧gC c=some (l-87).toNat:=eO c hlet;obtain⟨hl4,hl5⟩:=hl2;obtain⟨dn,hdn⟩:∃dn,dn=(l-87).toNat:=⟨_,rfl⟩;have HDG:=Z (show gC c=some dn by rw[hdn];exact hl3);have hD:(dn:Int)=l-97+10:=by omega
     have h95:((c.toNat:Int) ==95)=false:=bf (by omega);clear hdn hl3 hlet;have hdb:¬dn<8:=by omega
     have hdz:l-97+10≥8:=by omega
     have HS:=Z (dI hgo HDG (by omega:8≤dn));clear hacc ha;go_wp2_with (go_at_call 157;refine(am _ _).mono ?_;rintro e w' ⟨rfl,rfl⟩)
     all_goals
      go_ret2
      exact⟨_,_,rfl,KP,.inr (.inl ⟨rfl,rfl,HS⟩)⟩
    ·have HS:=Z (gh (b:=8) hgo (jy c hdig hlet));obtain⟨l,hl1,hl2⟩:∃l:Int,bits .or .u8 (c.toNat:Int) 32=l∧¬ (97≤l∧l≤122):=gm c hlet;clear hacc ha hlet;by_cases hl97:97≤l
     ·have hl122:¬l≤122:=by omega
      go_wp2_with (go_at_call 157;refine(am _ _).mono ?_;rintro e w' ⟨rfl,rfl⟩)
      all_goals
       go_ret2
       exact⟨_,_,rfl,KP,.inr (.inl ⟨rfl,rfl,HS⟩)⟩
     ·go_wp2_with (go_at_call 157;refine(am _ _).mono ?_;rintro e w' ⟨rfl,rfl⟩)
      all_goals
       go_ret2
       exact⟨_,_,rfl,KP,.inr (.inl ⟨rfl,rfl,HS⟩)⟩
  ·have hkk:k=s.size:=by omega
   subst hkk;have hfin:ay 8 s.toList 0=some acc:=by rw[hgo,List.drop_eq_nil_of_le (by rw[qi];exact Nat.le_refl _)];rfl
   have HF:=Z hfin;have HAC:=Z hacc;have HA:=Z ha;clear hacc a0 a1 hfin hgo ha;go_wp2
   go_ret2
   exact⟨_,_,rfl,KP,.inl ⟨acc,gj HNE HF,HAC,HA,rfl⟩⟩
theorem rP(s:ByteArray)(hs:s.size≤100000)(w:World):
  Calls prog 139 #[.string s,.int .i64 16,.int .i64 32] w (xX s 16 4294967296 w):=by
 by_cases hne:s.size=0
 ·have hs0:s=⟨#[]⟩:=by
   apply ByteArray.ext;exact Array.eq_empty_of_size_eq_zero hne
  subst hs0;go_enter func139,ntmps139;go_wp2
  go_ret2
  exact⟨_,_,rfl,Fr.refl w,.inr (.inl ⟨rfl,rfl,by rw[qp];rfl⟩)⟩
 obtain⟨hemp,W1,hcv,KP,HBB⟩:=iY s w hne;have HNE:=Z hne;clear hne;go_enter func139,ntmps139;go_wp2
 go_loop [12,13,101] (fun vu vn vi=>∃ (k acc:Nat) (a:Int),vu= .bool false∧vn= .int .u64 a∧vi= .int .i64 k∧k≤s.size∧Hid (a=(acc:Int)∧acc<4294967296∧ay 16 s.toList 0=ay 16 (s.toList.drop k) acc))
  (fun _ _ vi=>s.size-br vi)
 case atStart=>exact⟨0,0,0,rfl,rfl,rfl,Nat.zero_le _,Z ⟨rfl,by decide,rfl⟩⟩
 case round=>
  obtain⟨k,acc,a,rfl,rfl,rfl,hk,hh⟩:=hrel;obtain⟨ha,hacc,hgo⟩:=hh.out;clear hh;have a0:0≤a:=by omega
  have a1:a<4294967296:=by omega
  by_cases hkn:k<s.size
  ·have hc:=HBB k hkn;have hl:k<s.toList.length:=by rw[qi];exact hkn
   have hget:s.data.toList.getD k 0=s.toList[k]'hl:=by
    rw[List.getD_eq_getElem?_getD,←qi,List.getElem?_eq_getElem hl];rfl
   rw[List.drop_eq_getElem_cons hl] at hgo;rw[hget] at hc;generalize s.toList[k]'hl=c at hc hgo;have hc256:c.toNat<256:=c.toNat_lt;clear hget hl;by_cases hdig:48≤c.toNat∧c.toNat≤57
   ·obtain⟨hd0,hd1⟩:=hdig;obtain⟨dn,hdn⟩:∃dn,dn=c.toNat-48:=⟨_,rfl⟩;have HDG:=Z (show gC c=some dn by rw[hdn];exact gB c ⟨hd0,hd1⟩);have hD:(dn:Int)=(c.toNat:Int) -48:=by omega
    clear hdn;by_cases hdb:dn<16
    ·have hdz:¬ (c.toNat:Int) -48≥16:=by omega
     have hdz':(c.toNat:Int) -48<16:=by omega
     have hcut:¬1152921504606846976≤acc:=by omega
     by_cases hov:4294967296≤acc*16+dn
     ·have icut:a<1152921504606846976:=by omega
      have iov:4294967296≤a*16+((c.toNat:Int) -48):=by omega
      have iov2:a*16+((c.toNat:Int) -48) <18446744073709551616:=by omega
      have iov3:¬a*16+((c.toNat:Int) -48) <a:=by omega
      have HR:=Z (cW (b:=16) (L:=4294967296) hgo HDG hdb hov);clear hcut hacc hov ha;go_wp2_with (go_at_call 157;refine(am _ _).mono ?_;rintro e w' ⟨rfl,rfl⟩)
      all_goals
       go_ret2
       exact⟨_,_,rfl,KP,.inr (.inr ⟨rfl,rfl,HR⟩)⟩
     have icut:a<1152921504606846976:=by omega
     have iov:a*16+((c.toNat:Int) -48) <4294967296:=by omega
     have iov3:¬a*16+((c.toNat:Int) -48) <a:=by omega
     have HN:=Z (show a*16+((c.toNat:Int) -48)=((acc*16+dn:Nat):Int)∧acc*16+dn<4294967296∧ay 16 s.toList 0=ay 16 (s.toList.drop (k+1)) (acc*16+dn) from⟨by omega,by omega,dD hgo HDG hdb⟩);clear hcut hacc hov ha hgo;go_wp2_with (go_at_call 157;refine(am _ _).mono ?_;rintro e w' ⟨rfl,rfl⟩)
     all_goals refine⟨⟨k+1,acc*16+dn,a*16+((c.toNat:Int) -48),rfl,(by first|rfl|(congr 1;omega)),(by first|rfl|(congr 1;omega)),by omega,HN⟩,by simp only[br];omega⟩
    ·have hdz:(c.toNat:Int) -48≥16:=by omega
     have HS:=Z (dI hgo HDG (by omega:16≤dn));clear hacc ha;go_wp2_with (go_at_call 157;refine(am _ _).mono ?_;rintro e w' ⟨rfl,rfl⟩)
     all_goals
      go_ret2
      exact⟨_,_,rfl,KP,.inr (.inl ⟨rfl,rfl,HS⟩)⟩
   ·by_cases hlet:(97≤c.toNat∧c.toNat≤122)∨(65≤c.toNat∧c.toNat≤90)
    ·obtain⟨l,hl1,hl2,hl3⟩:∃l:Int,bits .or .u8 (c.toNat:Int) 32=l∧(97≤l∧l≤122)∧gC c=some (l-87).toNat:=eO c hlet;obtain⟨hl4,hl5⟩:=hl2;obtain⟨dn,hdn⟩:∃dn,dn=(l-87).toNat:=⟨_,rfl⟩;have HDG:=Z (show gC c=some dn by rw[hdn];exact hl3);have hD:(dn:Int)=l-97+10:=by omega
     have h95:((c.toNat:Int) ==95)=false:=bf (by omega);clear hdn hl3 hlet;by_cases hdb:dn<16
     ·have hdz:¬l-97+10≥16:=by omega
      have hdz':l-97+10<16:=by omega
      have hcut:¬1152921504606846976≤acc:=by omega
      by_cases hov:4294967296≤acc*16+dn
      ·have icut:a<1152921504606846976:=by omega
       have iov:4294967296≤a*16+(l-97+10):=by omega
       have iov2:a*16+(l-97+10) <18446744073709551616:=by omega
       have iov3:¬a*16+(l-97+10) <a:=by omega
       have HR:=Z (cW (b:=16) (L:=4294967296) hgo HDG hdb hov);clear hcut hacc hov ha;go_wp2_with (go_at_call 157;refine(am _ _).mono ?_;rintro e w' ⟨rfl,rfl⟩)
       all_goals
        go_ret2
        exact⟨_,_,rfl,KP,.inr (.inr ⟨rfl,rfl,HR⟩)⟩
      have icut:a<1152921504606846976:=by omega
      have iov:a*16+(l-97+10) <4294967296:=by omega
      have iov3:¬a*16+(l-97+10) <a:=by omega
      have HN:=Z (show a*16+(l-97+10)=((acc*16+dn:Nat):Int)∧acc*16+dn<4294967296∧ay 16 s.toList 0=ay 16 (s.toList.drop (k+1)) (acc*16+dn) from⟨by omega,by omega,dD hgo HDG hdb⟩);clear hcut hacc hov ha hgo;go_wp2_with (go_at_call 157;refine(am _ _).mono ?_;rintro e w' ⟨rfl,rfl⟩)
      all_goals refine⟨⟨k+1,acc*16+dn,a*16+(l-97+10),rfl,(by first|rfl|(congr 1;omega)),(by first|rfl|(congr 1;omega)),by omega,HN⟩,by simp only[br];omega⟩
     ·have hdz:l-97+10≥16:=by omega
      have HS:=Z (dI hgo HDG (by omega:16≤dn));clear hacc ha;go_wp2_with (go_at_call 157;refine(am _ _).mono ?_;rintro e w' ⟨rfl,rfl⟩)
      all_goals
       go_ret2
       exact⟨_,_,rfl,KP,.inr (.inl ⟨rfl,rfl,HS⟩)⟩
    ·have HS:=Z (gh (b:=16) hgo (jy c hdig hlet));obtain⟨l,hl1,hl2⟩:∃l:Int,bits .or .u8 (c.toNat:Int) 32=l∧¬ (97≤l∧l≤122):=gm c hlet;clear hacc ha hlet;by_cases hl97:97≤l
     ·have hl122:¬l≤122:=by omega
      go_wp2_with (go_at_call 157;refine(am _ _).mono ?_;rintro e w' ⟨rfl,rfl⟩)
      all_goals
       go_ret2
       exact⟨_,_,rfl,KP,.inr (.inl ⟨rfl,rfl,HS⟩)⟩
     ·go_wp2_with (go_at_call 157;refine(am _ _).mono ?_;rintro e w' ⟨rfl,rfl⟩)
      all_goals
       go_ret2
       exact⟨_,_,rfl,KP,.inr (.inl ⟨rfl,rfl,HS⟩)⟩
  ·have hkk:k=s.size:=by omega
   subst hkk;have hfin:ay 16 s.toList 0=some acc:=by rw[hgo,List.drop_eq_nil_of_le (by rw[qi];exact Nat.le_refl _)];rfl
   have HF:=Z hfin;have HAC:=Z hacc;have HA:=Z ha;clear hacc a0 a1 hfin hgo ha;go_wp2
   go_ret2
   exact⟨_,_,rfl,KP,.inl ⟨acc,gj HNE HF,HAC,HA,rfl⟩⟩
end Go.Proofs.YtnclklfhjbkjhaaGreatDoor
