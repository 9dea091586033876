/- Part of the proof: M4 M5 M6 S1 M7 M8 M9. -/
import Derived.Test.YtnclklfhjbkjhaaGreatDoorKd
import Derived.Test.YtnclklfhjbkjhaaGreatDoorLd
import Derived.Test.YtnclklfhjbkjhaaGreatDoorHb
import Derived.Test.YtnclklfhjbkjhaaGreatDoorMa
import Derived.Shelf.Strings.OnBuilder
set_option maxRecDepth 1000000
set_option maxHeartbeats 40000000
set_option linter.unusedSimpArgs false
namespace Go.Proofs.YtnclklfhjbkjhaaGreatDoor
open Tryz
open Go.RowKit Go.Lib
def tL(C:RC)(B:List UInt8)(w:World)(e':Ending)(w':World):Prop:=
 ∃ (r e:Nat) (buf:List UInt8) (tx:ByteArray) (ev:Value),BR C r e buf tx ev w'∧buf++tx.toList=B∧Fr (RS C) w w'∧
  ((3≤buf.length∧e'= .returned (.tuple #[.slice (some ⟨C.kb,r,none⟩) 3 (4096-r),.nilIface]))∨∃ (o m c:Nat) (b:Addr),e'= .returned (.tuple #[.slice (some ⟨C.kb,o,none⟩) m c,.iface 172 (.pointer (some b))]))
theorem rV(C:RC)(B:List UInt8)(w:World)(h:RdB C B w):
  Calls prog 59 #[.pointer (some ⟨C.bb,0,none⟩),.int .i64 3] w (tL C B w):=by
 obtain⟨r0,e0,buf0,tx0,ev0,h,hb0⟩:=h;have HR0:=Z h;have hn1:=C.n1;have hn2:=C.n2;have hn3:=C.n3;have h1:BR C r0 e0 buf0 tx0 ev0 ((w.setCell ⟨C.bb,5,none⟩ (.int .i64 (-1))).setCell ⟨C.bb,6,none⟩ (.int .i64 (-1)))∧Fr (· =C.bb) w ((w.setCell ⟨C.bb,5,none⟩ (.int .i64 (-1))).setCell ⟨C.bb,6,none⟩ (.int .i64 (-1))):=by
  obtain⟨lb,ls,hbb⟩:=h.bblk;have hf:Fr (· =C.bb) w ((w.setCell ⟨C.bb,5,none⟩ (.int .i64 (-1))).setCell ⟨C.bb,6,none⟩ (.int .i64 (-1))):=((Fr.refl w).setIn (S:=(· =C.bb)) _ rfl).setIn _ rfl;exact⟨h.store' ⟨-1,-1,by rw[ag (ag hbb _ _)];simp⟩ hf h.kblk h.len h.fit h.err,hf⟩
 obtain⟨b1,b2,b3,c0,c1,c2,c3,c4,f2,f3,f4,f5,f6⟩:=h.facts;have c5:∃lb:Int,w.cell? ⟨C.bb,5,none⟩=some (.int .i64 lb):=by
  obtain⟨lb,ls,hbb⟩:=h.bblk;exact⟨lb,ab hbb 5⟩
 have c6:∃lb:Int,w.cell? ⟨C.bb,6,none⟩=some (.int .i64 lb):=by
  obtain⟨lb,ls,hbb⟩:=h.bblk;exact⟨ls,ab hbb 6⟩
 obtain⟨lb,c5⟩:=c5;obtain⟨ls,c6⟩:=c6;have H1:=Z h1;clear h h1 c0 c1 c2 c3 c4;go_enter func59,ntmps59;go_upto_block 0 with fail;go_cut [] (fun wx=>∃ (r e:Nat) (buf:List UInt8) (tx:ByteArray) (ev:Value),Hid (BR C r e buf tx ev wx∧buf++tx.toList=B∧Fr (RS C) w wx∧(3≤buf.length∨ev≠ .nilIface)))
 case first=>
  go_wp2_with fail;go_loopg [] (tx0.size+1) (fun k wr=>∃r e buf tx ev,Hid (BR C r e buf tx ev wr∧buf++tx.toList=B∧Fr (RS C) w wr)∧Hid (ev= .nilIface→tx.size+1≤k))
  case atStart=>exact⟨r0,e0,buf0,tx0,ev0,Z ⟨H1.1,hb0,H1.2.mono fun _ _ e=> .inl e⟩,Z fun _=>Nat.le_refl _⟩
  case round=>
   obtain⟨r,e,buf,tx,ev,HX,HK⟩:=hrel;obtain⟨b1,b2,b3,c0,c1,c2,c3,c4,-,-,-,-,-⟩:=HX.1.facts;have hl:=HX.1.len;have hfit:=HX.1.fit;have hr1:(r:Int)≤(e:Int):=by omega
   have hr2:(e:Int)≤4096:=by omega
   have hws:IntKind.i64.wrap ((e:Int) - (r:Int))=(e:Int) - (r:Int):=IntWalk.i64_in _ (by omega);by_cases hlt:e-r<3
   ·have g1:decide ((e:Int) - (r:Int) <3)=true:=by simp;omega
    have g2:decide ((e:Int) - (r:Int) <4096)=true:=by simp;omega
    have HLT:=Z hlt;have HLE:=Z hl;clear hl hlt;rcases HX.1.err with he|he
    ·subst he;have HK2:=Z (HK rfl);clear HK;go_wp2_with fail;go_quiet (fail);have HB:=Z (HX.1.keep ((Fr.refl wr).drewN' nq));have HF:Hid (Fr (RS C) w (wr.drewN nq)):=Z (HX.2.2.drewN' nq);clear c0 c1 c2 c3 c4 hws g1 g2;go_wp2_with (go_at_call 93;refine(nw C r e buf tx _ HB (by have:=HLT.out;have:=HLE.out;omega)).mono ?_;rintro e2 w2 ⟨rfl,f2,n,buf',tx',ev',hb,hcat,hm⟩;have HB2:=Z hb;have HC2:=Z hcat;have HM2:=Z hm;have HF2:=Z (HF.trans f2);clear hb hcat hm f2);by_cases hev:ev'= .nilIface
     ·go_roundg (tx'.size+1)
      case measure=>
       have:=HK2.out;rcases HM2 with h|h
       ·exact absurd hev h
       ·omega
      case rel=>exact⟨0,n,buf',tx',ev',Z ⟨HB2,HC2.trans HX.2.1,HF2⟩,Z fun _=>Nat.le_refl _⟩
     ·go_roundg 0
      case measure=>
       have:=HK2.out;omega
      case rel=>exact⟨0,n,buf',tx',ev',Z ⟨HB2,HC2.trans HX.2.1,HF2⟩,Z fun h=>absurd h hev⟩
    ·obtain⟨b,hb⟩:=he.2.form;subst hb;go_wp2_with fail;go_quiet (fail);go_wp2_with fail;go_meet;exact⟨r,e,buf,tx,_,Z ⟨HX.1.keep ((Fr.refl wr).drewN' nq),HX.2.1,HX.2.2.drewN' nq,.inr (by simp)⟩⟩
   ·have g1:decide ((e:Int) - (r:Int) <3)=false:=by simp;omega
    have HLT:=Z hlt;have HLE:=Z hl;clear hl hlt;go_wp2_with fail;go_quiet (fail);go_wp2_with fail;go_meet;exact⟨r,e,buf,tx,_,Z ⟨HX.1.keep ((Fr.refl wr).drewN' nq),HX.2.1,HX.2.2.drewN' nq,.inl (by have:=HLT.out;have:=HLE.out;omega)⟩⟩
 case rest=>
  obtain⟨r,e,buf,tx,ev,HX⟩:=hcut;obtain⟨b1,b2,b3,c0,c1,c2,c3,c4,-,-,-,-,-⟩:=HX.1.facts;have hl:=HX.1.len;have hfit:=HX.1.fit;have hr1:(r:Int)≤(e:Int):=by omega
  have hr2:(e:Int)≤4096:=by omega
  have hws:IntKind.i64.wrap ((e:Int) - (r:Int))=(e:Int) - (r:Int):=IntWalk.i64_in _ (by omega);have HL:=Z hl;clear hl;by_cases h3:3≤e-r
  ·have g1:decide ((e:Int) - (r:Int) <3)=false:=by simp;omega
   have hw3:IntKind.i64.wrap ((r:Int)+3)=(r:Int)+3:=IntWalk.i64_in _ (by omega);have hn4:¬4096=r:=by omega
   have hr4:(r:Int)+3≤4096:=by omega
   have hrr:((r:Int)+3).toNat=r+3:=by omega
   have H3:=Z h3;clear h3;go_wp2_with fail;go_quiet (fail);go_wp2_with fail;go_quiet (fail);go_wp2_with fail;exact qh (results_tmp2 results59 _ _ _) rfl ⟨r,e,buf,tx,ev,(HX.1.keep ((Fr.refl wc).drewN' _)).keep ((Fr.refl _).drewN' _),HX.2.1,(HX.2.2.1.drewN' _).drewN' _,.inl ⟨by have:=HL.out;have:=H3.out;omega,rfl⟩⟩
  ·have g1:decide ((e:Int) - (r:Int) <3)=true:=by simp;omega
   have hev:ev≠ .nilIface:=by
    rcases HX.2.2.2 with h|h
    ·have:=HL.out;omega
    ·exact h
   rcases HX.1.err with he|he
   ·exact absurd he hev
   obtain⟨b,rfl⟩:=he.2.form;have H3:=Z h3;have hw3:IntKind.i64.wrap ((r:Int)+((e:Int) - (r:Int)))=(e:Int):=by rw[show(r:Int)+((e:Int) - (r:Int))=(e:Int) from by omega];exact IntWalk.i64_in _ (by omega)
   clear h3 hev he;by_cases h4:4096=r
   ·go_wp2_with fail;go_quiet (fail);have HB:=Z (HX.1.keep ((Fr.refl wc).drewN' nq));have HF:Hid (Fr (RS C) w (wc.drewN nq)):=Z (HX.2.2.1.drewN' nq);clear c0 c1 c2 c3 c4;go_wp2_with (go_at_call 94;refine(eL C r e buf tx _ _ HB).mono ?_;rintro e2 w2 ⟨rfl,hb2,f2⟩;obtain⟨-,-,-,c0,c1,c2,c3,c4,-,-,-,-,-⟩:=hb2.facts;have HB2:=Z hb2;have HF2:=Z (HF.trans (f2.mono fun _ _ e=> .inl e));clear hb2 f2);go_quiet (fail);go_wp2_with fail;exact qh (results_tmp2 results59 _ _ _) rfl ⟨r,e,buf,tx,_,HB2.keep ((Fr.refl w2).drewN' _),HX.2.1,HF2.drewN' _,.inr ⟨_,_,_,b,rfl⟩⟩
   ·go_wp2_with fail;go_quiet (fail);have HB:=Z (HX.1.keep ((Fr.refl wc).drewN' nq));have HF:Hid (Fr (RS C) w (wc.drewN nq)):=Z (HX.2.2.1.drewN' nq);clear c0 c1 c2 c3 c4;go_wp2_with (go_at_call 94;refine(eL C r e buf tx _ _ HB).mono ?_;rintro e2 w2 ⟨rfl,hb2,f2⟩;obtain⟨-,-,-,c0,c1,c2,c3,c4,-,-,-,-,-⟩:=hb2.facts;have HB2:=Z hb2;have HF2:=Z (HF.trans (f2.mono fun _ _ e=> .inl e));clear hb2 f2);go_quiet (fail);go_wp2_with fail;exact qh (results_tmp2 results59 _ _ _) rfl ⟨r,e,buf,tx,_,HB2.keep ((Fr.refl w2).drewN' _),HX.2.1,HF2.drewN' _,.inr ⟨_,_,_,b,rfl⟩⟩
theorem gn(C:RC)(lx rr T:Nat)(A:Nat→Prop)(ok:Bool)(R:List Int)(p pv:Ps)(w:World)(h:LxSt C lx rr A ok T 0 R p pv w)(hcp:Cp R)(hsg:SG w)(hlow:¬A 11∧¬A 12):
  Calls prog 33 #[.pointer (some ⟨lx,0,none⟩)] w (vD C lx rr A T R p w):=
 sE C lx rr T A ok R p pv w h hcp fun q R' p' pv' ok' w' hq f h' hcp'=>mI C lx rr T A ok' q R' p' pv' w' h' hq hcp' (hsg.fr f hlow h.la) hlow
theorem vd{k r c:Nat}{l:List UInt8}{w:World}(h:eB w k r l)(n:Nat)(hn:n≤l.length):(convert 117 9 (.slice (some ⟨k,r,none⟩) n c)).run prog w= .ok (.string ⟨(l.take n).toArray⟩) w:=by
 have hl:(l.take n).length=n:=by rw[List.length_take];omega
 have hc:=run_convert_bytes_back (P:=prog) w 117 9 5 ⟨k,r,none⟩ c (l.take n) (by kernel_rfl) (by kernel_rfl) (by kernel_rfl) (by
  intro j hj;rw[show(Addr.add ⟨k,r,none⟩ j)=⟨k,r+j,none⟩ from by simp[Addr.add]];rw[hl] at hj;rw[h j (by omega)];unfold bt;rw[List.getD_eq_getElem?_getD,List.getElem?_eq_getElem (by omega)];simp)
 rw[hl] at hc;exact hc
def zH:List Int:=[239,187,191]
theorem qN(v1 v2:Value)(s1 s2:ByteArray)(w:World)(h1:(convert 117 9 v1).run prog w= .ok (.string s1) w)(h2:(convert 117 9 v2).run prog w= .ok (.string s2) w)(hne:s1.toList≠s2.toList):
  Calls prog 60 #[v1,v2] w fun e w'=>e= .returned (.bool false)∧w=w':=by
 have HN:=Z hne;clear hne;go_enter func60,ntmps60;go_wp2_with fail;exact qh (results_tmp results60 _ _ _) rfl ⟨by first|rfl|simp[HN.out],rfl⟩
theorem gI(l:List UInt8):(bj l).length≤l.length:=by
 rw[bj];split
 ·simp
 ·rename_i h;have hp:0<l.length:=List.length_pos_iff.2 h;have h1:=gI (l.drop (ex l).2);have h2:0< (ex l).2:=(gD ‹_›).1;simp only[List.length_cons];rw[List.length_drop] at h1;omega
termination_by l.length
decreasing_by
 have h2:0< (ex l).2:=(gD ‹_›).1;rw[List.length_drop];omega
theorem mW{C:RC}{B:List UInt8}{A:Nat→Prop}{w0 w:World}(h:RdB C B w)(h240:∀i,bt B i<240)(hB:B.length≤1000000)(hpb:C.pb<C.bb)(hA:∀k,A k→C.pb<k∧k<w0.heap.size)(hbb:C.bb=w0.heap.size)(hkb:C.kb=w0.heap.size+1):
  LxSt C (w.heap.size+1) w.heap.size (fun k=>A k∨k=w.heap.size+1) true (bj B).length 0 (bj B) ⟨0,0⟩ ⟨0,0⟩ ((w.alloc (.cells #[.pointer (some ⟨C.bb,0,none⟩),.slice none 0 0,.nilIface] 125)).alloc (.cells #[.pointer (some ⟨w.heap.size,0,none⟩),.int .i64 0,.int .i64 0,.int .i64 0,.int .i64 0] 99)):=by
 have hf:=h;obtain⟨r,e,buf,tx,ev,hb,hcat⟩:=hf;have hfa:=hb.facts;have hsz:((w.alloc (.cells #[.pointer (some ⟨C.bb,0,none⟩),.slice none 0 0,.nilIface] 125)).alloc (.cells #[.pointer (some ⟨w.heap.size,0,none⟩),.int .i64 0,.int .i64 0,.int .i64 0,.int .i64 0] 99)).heap.size=w.heap.size+1+1:=by simp
 have h1:((w.alloc (.cells #[.pointer (some ⟨C.bb,0,none⟩),.slice none 0 0,.nilIface] 125)).alloc (.cells #[.pointer (some ⟨w.heap.size,0,none⟩),.int .i64 0,.int .i64 0,.int .i64 0,.int .i64 0] 99)).heap[w.heap.size]? =some (.cells #[.pointer (some ⟨C.bb,0,none⟩),.slice none 0 0,.nilIface] 125 (0,0)):=by
  rw[Below.heap_alloc _ _ _ (by simp)];exact ql w _
 have h2:((w.alloc (.cells #[.pointer (some ⟨C.bb,0,none⟩),.slice none 0 0,.nilIface] 125)).alloc (.cells #[.pointer (some ⟨w.heap.size,0,none⟩),.int .i64 0,.int .i64 0,.int .i64 0,.int .i64 0] 99)).heap[w.heap.size+1]? =some (.cells #[.pointer (some ⟨w.heap.size,0,none⟩),.int .i64 0,.int .i64 0,.int .i64 0,.int .i64 0] 99 (0,0)):=by
  have h:=ql (w.alloc (.cells #[.pointer (some ⟨C.bb,0,none⟩),.slice none 0 0,.nilIface] 125)) (.cells #[.pointer (some ⟨w.heap.size,0,none⟩),.int .i64 0,.int .i64 0,.int .i64 0,.int .i64 0] 99);simpa using h
 have hl:=gI B;refine⟨.inr rfl,⟨fun k e=>?_,⟨by omega,by omega,by omega⟩,[],B,.slice none 0 0,.nilIface,h1,⟨rfl,.inl ⟨rfl,rfl⟩⟩,fun g hg=>?_,h.keep (((Fr.refl w).alloc _).alloc _),h240,rfl,.inl rfl⟩,h2,⟨0,⟨by decide,by decide,by decide,by decide⟩,by simp⟩,by omega⟩
 ·rw[hsz];rcases e with e|e
  ·have:=hA k e;exact⟨by omega,by omega,by omega,by omega,by omega⟩
  ·exact⟨by omega,by omega,by omega,by omega,by omega⟩
 ·simp[Value.ownBlock] at hg
theorem vL{C:RC}{w w':World}(hbb:C.bb=w.heap.size)(hkb:C.kb=w.heap.size+1)(f:Fr (RS C) w w'):Fr (· =C.pb) w w':=by
 refine f.mono fun k hk e=>?_
 rcases e with e|e|e
 ·omega
 ·omega
 ·exact e
def x6(C:RC)(A:Nat→Prop)(B:List UInt8)(w:World)(e:Ending)(w':World):Prop:=
 ∃lx rr,e= .returned (.pointer (some ⟨lx,0,none⟩))∧w.heap.size≤lx∧LxSt C lx rr (fun k=>A k∨k=lx) true (bj B).length 0 (bj B) ⟨0,0⟩ ⟨0,0⟩ w'∧Fr (· =C.pb) w w'
theorem lG(C:RC)(tx:ByteArray)(cv:Value)(w:World)(A:Nat→Prop)(hbb:C.bb=w.heap.size)(hkb:C.kb=w.heap.size+1)(hp:PBlk C w tx cv)(hc:CutsOk C w cv)(hg:Glob C w)(hs:tx.size≤1000000)(h240:∀i,bt tx.toList i<240)
  (hbom:tx.toList.take 3≠[239,187,191]) (hA:∀k,A k→C.pb<k∧k<w.heap.size):Calls prog 29 #[.iface 66 (.pointer (some ⟨C.pb,0,none⟩))] w (x6 C A tx.toList w):=by
 have hpb:C.pb<C.bb:=by rw[hbb];exact af hp
 have hB:tx.toList.length≤1000000:=by rw[←cM];exact hs
 have HN:=Z (mR C tx cv w hbb hkb hp hc hg hs);have HBOM:=Z hbom;have H240:=Z h240;have HBB:=Z hbb;have HKB:=Z hkb;have HA:=Z hA;have hbm:∀W:World,(convert 117 9 (.slice (some ⟨W.heap.size,0,none⟩) 3 3)).run prog (W.alloc (.cells #[.int .u8 239,.int .u8 187,.int .u8 191] 5))= .ok (.string ⟨#[239,187,191]⟩) (W.alloc (.cells #[.int .u8 239,.int .u8 187,.int .u8 191] 5)):=fun W=>du W zH (by unfold zH;simp)
 have HBM:=Z hbm;clear hbb hkb hp hc hg h240 hbom hA hbm;go_enter func29,ntmps29;go_wp2_with first
  |(go_at_call 58;refine HN.mono ?_;rintro e w2 ⟨rfl,hb,kk⟩;have HB:=Z hb;have KK:=Z kk;clear hb kk)
  |(go_at_call 59;refine(rV C tx.toList _ ⟨0,0,[],tx,.nilIface,HB,rfl⟩).mono ?_;rintro e w3 ⟨r,e',buf,tx',ev,hb3,hcat,f3,(⟨hl,rfl⟩|⟨o,m,c,b,rfl⟩)⟩<;>refine Hid.out ?_)
 ·refine Z ?_;have HB3:=Z hb3;have HC3:=Z hcat;have HF3:=Z (KK.fr.trans f3);have HL:=Z hl;clear hb3 hcat f3 hl;have hne:(⟨(buf.take 3).toArray⟩:ByteArray).toList≠(⟨#[239,187,191]⟩:ByteArray).toList:=by
   have h:=HBOM.out;rw[←HC3.out,List.take_append_of_le_length HL.out] at h;rw[qi,qi];exact h
  have HNE:=Z hne;clear hne;go_wp2_with (go_at_call 60;refine(qN _ _ ⟨(buf.take 3).toArray⟩ ⟨#[239,187,191]⟩ _ (vd (HB3.keep ((Fr.refl w3).alloc _)).bytes 3 HL) (HBM w3) HNE).mono ?_;rintro e w4 ⟨rfl,rfl⟩);refine qh (results_tmp results29 _ _ _) rfl ⟨_,_,rfl,?_,(by
   have h:=mW (w0:=w) (w:=w3.alloc (.cells #[.int .u8 239,.int .u8 187,.int .u8 191] 5)) ⟨r,e',buf,tx',ev,HB3.keep ((Fr.refl w3).alloc _),HC3⟩ H240 hB hpb HA HBB HKB.out;rw[World.size_alloc] at h;exact h),?_⟩
  ·have:=HF3.size;simp;omega
  ·exact vL HBB HKB ((HF3.alloc _).alloc _ |>.alloc _)
 ·refine Z ?_;have HB3:=Z hb3;have HC3:=Z hcat;have HF3:=Z (KK.fr.trans f3);clear hb3 hcat f3;go_wp2_with fail;refine qh (results_tmp results29 _ _ _) rfl ⟨_,_,rfl,?_,mW (w0:=w) ⟨r,e',buf,tx',ev,HB3,HC3⟩ H240 hB hpb HA HBB HKB,?_⟩
  ·have:=HF3.size;omega
  ·exact vL HBB HKB ((HF3.alloc _).alloc _)
end Go.Proofs.YtnclklfhjbkjhaaGreatDoor
namespace Go.Proofs.YtnclklfhjbkjhaaGreatDoor
open Go.RowKit Go.Lib
noncomputable def ve(n:Nat):Code:=(Tryz.f18.body.bind (de n)).getD .skip
def gP(u:Nat→Value):Act:=⟨#[
 u 0,u 1,u 2,u 3,u 4,u 5,u 6,u 7,u 8,u 9,u 10,u 11,u 12,u 13,u 14,u 15,
 u 16,u 17,u 18,u 19,u 20,u 21,u 22,u 23,u 24,u 25,u 26,u 27,u 28,u 29,u 30,u 31,
 u 32,u 33,u 34,u 35,u 36,u 37,u 38,u 39,u 40,u 41,u 42,u 43,u 44,u 45,u 46,u 47,
 u 48,u 49,u 50,u 51,u 52,u 53,u 54,u 55,u 56,u 57,u 58,u 59,u 60,u 61,u 62,u 63,
 u 64,u 65,u 66,u 67,u 68,u 69,u 70,u 71,u 72,u 73,u 74,u 75,u 76,u 77,u 78,u 79,
 u 80,u 81,u 82,u 83,u 84,u 85,u 86,u 87,u 88,u 89,u 90,u 91,u 92,u 93,u 94,u 95,
 u 96,u 97,u 98,u 99,u 100,u 101,u 102,u 103,u 104,u 105,u 106,u 107,u 108,u 109,u 110,u 111,
 u 112,u 113,u 114,u 115,u 116,u 117,u 118,u 119,u 120,u 121,u 122,u 123,u 124,u 125,u 126,u 127,
 u 128,u 129,u 130,u 131,u 132,u 133,u 134,u 135,u 136,u 137,u 138,u 139,u 140,u 141,u 142,u 143,
 u 144,u 145,u 146,u 147,u 148,u 149,u 150,u 151,u 152,u 153,u 154,u 155,u 156,u 157,u 158,u 159,
 u 160,u 161,u 162,u 163,u 164,u 165,u 166,u 167,u 168,u 169,u 170,u 171,u 172,u 173,u 174,u 175,
 u 176,u 177,u 178,u 179,u 180,u 181,u 182,u 183,u 184,u 185,u 186,u 187,u 188,u 189,u 190,u 191,
 u 192,u 193,u 194,u 195,u 196,u 197,u 198,u 199,u 200,u 201,u 202,u 203,u 204,u 205,u 206,u 207,
 u 208,u 209,u 210,u 211,u 212,u 213,u 214,u 215,u 216,u 217,u 218,u 219,u 220,u 221,u 222,u 223,
 u 224,u 225,u 226,u 227,u 228,u 229,u 230,u 231,u 232,u 233,u 234,u 235,u 236,u 237,u 238,u 239,
 u 240,u 241,u 242,u 243,u 244,u 245,u 246,u 247,u 248,u 249,u 250,u 251,u 252,u 253,u 254,u 255,
 u 256,u 257,u 258,u 259,u 260,u 261,u 262,u 263,u 264,u 265,u 266,u 267,u 268,u 269,u 270,u 271],[]⟩
theorem uT(u:Nat→Value):gP u=⟨((List.range 272).map u).toArray,[]⟩:=by kernel_rfl
def Fr18(P:(Nat→Value)→Prop)(a:Act):Prop:=∃u,P u∧a=gP u
theorem Fr18.mk{P:(Nat→Value)→Prop}{a:Act}(hs:a.tmps.size=272)(hd:a.defers=[])(h:P fun i=>a.tmps.getD i Go.undef):Fr18 P a:=⟨_,h,by rw[uT];exact jK hs hd⟩
theorem Fr18.mono{P P':(Nat→Value)→Prop}{a:Act}(h:Fr18 P a)(hp:∀u,P u→P' u):Fr18 P' a:=by
 obtain⟨u,h1,h2⟩:=h;exact⟨u,hp u h1,h2⟩
def mF(i:Nat):TypeId:=if i=0 then 9 else if i=1 then 9 else if i=2 then 75 else if i=3 then 101 else 70
def qv(i:Nat):Nat:=if i=4 then 3 else 1
def up{α:Type}(f:Nat→α)(i:Nat)(x:α)(j:Nat):α:=if j=i then x else f j
theorem eC{α:Type}(f:Nat→α)(i:Nat)(x:α):up f i x i=x:=if_pos rfl
theorem dz{α:Type}{f:Nat→α}{i j:Nat}{x:α}(h:j≠i):up f i x j=f j:=if_neg h
structure SB(C:RC)(lx rr T:Nat)(R:List Int)(p pv:Ps)(A P:Nat→Prop)(V:Nat→Value)(N:Nat→Nat)(X:Nat→List Value)(w:World):Prop where
 lxs:∃ok,LxSt C lx rr A ok T 0 R p pv w
 rows:∀i,i<5→w.ownsRow (C.bb+1) (mF i) (qv i) (V i) (N i) (X i)
 own:∀i,i<5→∀g,(V i).ownBlock=some g→A g∧¬P g∧g≠lx
 dis:∀i j,i<5→j<5→i≠j→∀g,(V i).ownBlock=some g→(V j).ownBlock≠some g
 pin:∀k,P k→A k∧k≠lx
section
variable {C:RC} {lx rr T:Nat} {R:List Int} {p pv:Ps} {A P:Nat→Prop} {V:Nat→Value} {N:Nat→Nat} {X:Nat→List Value} {w w':World}
theorem SB.keep(h:SB C lx rr T R p pv A P V N X w)(k:Keep w w'):SB C lx rr T R p pv A P V N X w':=by
 obtain⟨ok,hl⟩:=h.lxs;exact⟨⟨ok,hl.keep k⟩,fun i hi=>aj (h.rows i hi) k fun _ _ e=>e,h.own,h.dis,h.pin⟩
theorem SB.lexed(h:SB C lx rr T R p pv A P V N X w)(f:Fr (LxF C lx A) w w'){ok:Bool}{R':List Int}{p' pv':Ps}(hl:LxSt C lx rr A ok T 0 R' p' pv' w'):SB C lx rr T R' p' pv' A P V N X w':=
 ⟨⟨ok,hl⟩,fun i hi=>aj (h.rows i hi) f fun g hg e=>by
  obtain⟨h1,h2,h3⟩:=h.own i hi g hg;rcases e with e|e
  ·exact e.2 h1
  ·exact h3 e,h.own,h.dis,h.pin⟩
theorem SB.spare(h:SB C lx rr T R p pv A P V N X w)(f:Fr (LxF C lx A) w w'){k:Nat}(hk:P k){o:Obj}(hb:w.heap[k]? =some o):w'.heap[k]? =some o:=
 f.blk (fun e=>e.elim (fun e=>e.2 (h.pin k hk).1) (h.pin k hk).2) hb
theorem SB.add(h:SB C lx rr T R p pv A P V N X w)(f:Keep w w')(k:Nat)(hk:w.heap.size≤k∧k<w'.heap.size):SB C lx rr T R p pv (fun j=>A j∨j=k) (fun j=>P j∨j=k) V N X w':=by
 have h':=h.keep f;obtain⟨ok,hl⟩:=h.lxs;have hlt:=hl.lt;refine⟨⟨ok,hl.more f (fun j e=>?_) (.inl hl.la)⟩,h'.rows,fun i hi g hg=>?_,h.dis,fun j e=>?_⟩
 ·rcases e with e|e
  ·exact .inl e
  ·exact .inr (by omega)
 ·obtain⟨h1,h2,h3⟩:=h.own i hi g hg;refine⟨.inl h1,?_,h3⟩;rintro(e|e)
  ·exact h2 e
  ·have:=hlt g h1;omega
 ·rcases e with e|e
  ·exact⟨.inl (h.pin j e).1,(h.pin j e).2⟩
  ·have:=hlt lx hl.la;exact⟨.inr e,by omega⟩
theorem SB.wrote(h:SB C lx rr T R p pv A P V N X w)(k:Nat)(hk:P k)(f:Fr (· =k) w w')(hT:∀cs,w.heap[k]? ≠some (.cells cs 174 (0,0))):SB C lx rr T R p pv A P V N X w':=by
 obtain⟨ok,hl⟩:=h.lxs;refine⟨⟨ok,hl.fr f (fun j e=>?_) (fun j cs e=>?_)⟩,fun i hi=>aj (h.rows i hi) f fun g hg e=>?_,h.own,h.dis,h.pin⟩
 ·have e':j=k:=e;subst e';exact h.pin j hk
 ·have e':j=k:=e;subst e';exact hT cs
 ·have e':g=k:=e;subst e';exact(h.own i hi g hg).2.1 hk
theorem rowE_ne(i:Nat):mF i≠174:=by
 unfold mF;split<;> (try split)<;> (try split)<;> (try split)<;>decide
theorem SB.push(h:SB C lx rr T R p pv A P V N X w)(i:Nat)(hi:i<5){v':Value}{n':Nat}{x':List Value}(hr:w'.ownsRow (C.bb+1) (mF i) (qv i) v' n' x')(f:Fr (fun k=>(V i).ownBlock=some k) w w')(hs:OwnStep w (V i) v')(hlt':∀g,v'.ownBlock=some g→g<w'.heap.size):
  SB C lx rr T R p pv (fun j=>A j∨v'.ownBlock=some j) P (up V i v') (up N i n') (up X i x') w':=by
 obtain⟨ok,hl⟩:=h.lxs;have hlt:=hl.lt;have hT:∀k cs,(V i).ownBlock=some k→w.heap[k]? ≠some (.cells cs 174 (0,0)):=by
  intro k cs e;rcases(h.rows i hi).2 with⟨e1,-⟩|⟨g,cap,cur,e1,e2,e3,-⟩
  ·rw[e1] at e;simp[Value.ownBlock] at e
  ·rw[e1] at e;have e':g=k:=by simpa[Value.ownBlock] using e
   subst e';rw[e3];intro e;simp only[Option.some.injEq,Obj.cells.injEq] at e;exact rowE_ne i e.2.1
 have hl1:=hl.fr f (fun k e=>⟨(h.own i hi k e).1,(h.own i hi k e).2.2⟩) hT;have hnew:∀g,v'.ownBlock=some g→(V i).ownBlock=some g∨(w.heap.size≤g∧g<w'.heap.size):=fun g hg=>(hs g hg).imp id fun e=>⟨e,hlt' g hg⟩
 refine⟨⟨ok,?_⟩,fun j hj=>?_,fun j hj g hg=>?_,fun j k hj hk hjk g hg=>?_,fun k e=>⟨.inl (h.pin k e).1,(h.pin k e).2⟩⟩
 ·refine⟨.inl hl.la,hl.ru.grow f (fun k e=>(h.own i hi k e).1) hT fun k e=>?_,hl1.lb,hl1.ps,hl1.hT⟩;rcases e with e|e
  ·exact .inl e
  ·rcases hnew k e with e|e
   ·exact .inl (h.own i hi k e).1
   ·exact .inr e
 ·by_cases e:j=i
  ·subst e;rw[eC,eC,eC];exact hr
  ·rw[dz e,dz e,dz e];exact aj (h.rows j hj) f fun g hg e'=>h.dis j i hj hi e g hg e'
 ·by_cases e:j=i
  ·subst e;rw[eC] at hg;refine⟨.inr hg,?_,?_⟩
   ·intro hp;rcases hnew g hg with e|e
    ·exact(h.own j hi g e).2.1 hp
    ·have:=hlt g (h.pin g hp).1;omega
   ·rcases hnew g hg with e|e
    ·exact(h.own j hi g e).2.2
    ·have:=hlt lx hl.la;omega
  ·rw[dz e] at hg;obtain⟨h1,h2,h3⟩:=h.own j hj g hg;exact⟨.inl h1,h2,h3⟩
 ·by_cases e:j=i
  ·subst e;rw[eC] at hg;rw[dz (Ne.symm hjk)];intro e';rcases hnew g hg with e|e
   ·exact h.dis j k hj hk hjk g e e'
   ·have:=hlt g (h.own k hk g e').1;omega
  ·rw[dz e] at hg;by_cases e2:k=i
   ·subst e2;rw[eC];intro e';rcases hnew g e' with e|e
    ·exact h.dis j k hj hk hjk g hg e
    ·have:=hlt g (h.own j hj g hg).1;omega
   ·rw[dz e2];exact h.dis j k hj hk hjk g hg
theorem SB.clear(h:SB C lx rr T R p pv A P V N X w)(i:Nat)(hi:i<5):SB C lx rr T R p pv A P (up V i (.slice none 0 0)) (up N i 0) (up X i []) w:=by
 have hn:(Value.slice none 0 0).ownBlock=none:=rfl;refine⟨h.lxs,fun j hj=>?_,fun j hj g hg=>?_,fun j k hj hk hjk g hg=>?_,h.pin⟩
 ·by_cases e:j=i
  ·subst e;rw[eC,eC,eC];exact⟨by simp,.inl ⟨rfl,rfl⟩⟩
  ·rw[dz e,dz e,dz e];exact h.rows j hj
 ·by_cases e:j=i
  ·subst e;rw[eC,hn] at hg;cases hg
  ·rw[dz e] at hg;exact h.own j hj g hg
 ·by_cases e:j=i
  ·subst e;rw[eC,hn] at hg;cases hg
  ·rw[dz e] at hg;by_cases e2:k=i
   ·subst e2;rw[eC,hn];intro e;cases e
   ·rw[dz e2];exact h.dis j k hj hk hjk g hg
end
end Go.Proofs.YtnclklfhjbkjhaaGreatDoor
namespace Go.Proofs
open Go.Shelf
def Tryz.lays156_ren:Go.Shelf.Ren:=⟨fun|156=>37|165=>73|166=>74|169=>75|240=>104|241=>105|276=>137|277=>138|n=>n,fun|31=>89|9=>9|3=>3|4=>4|0=>0|20=>20|72=>139|76=>121|70=>137|37=>117|75=>63|127=>175|164=>197|5=>5|80=>82|n=>n,fun|n=>n⟩
theorem Tryz.lays156:Go.Proofs.Lays.n156 Tryz.prog Tryz.lays156_ren:={
 mixed:=by kernel_rfl
 f156:=Tryz.func37.trans (congrArg some (by kernel_rfl))
 f165:=Tryz.func73.trans (congrArg some (by kernel_rfl))
 f166:=Tryz.func74.trans (congrArg some (by kernel_rfl))
 f169:=Tryz.func75.trans (congrArg some (by kernel_rfl))
 f240:=Tryz.func104.trans (congrArg some (by kernel_rfl))
 f241:=Tryz.func105.trans (congrArg some (by kernel_rfl))
 f276:=Tryz.func137.trans (congrArg some (by kernel_rfl))
 f277:=Tryz.func138.trans (congrArg some (by kernel_rfl))
 t0:=Tryz.underlying0
 a0:=Tryz.isAgg0
 z0:=Tryz.sizeOf0
 v0:=Tryz.zeroValue0
 t3:=Tryz.underlying3
 a3:=Tryz.isAgg3
 z3:=Tryz.sizeOf3
 v3:=Tryz.zeroValue3
 t4:=Tryz.underlying4
 a4:=Tryz.isAgg4
 z4:=Tryz.sizeOf4
 v4:=Tryz.zeroValue4
 t9:=Tryz.underlying9
 a9:=Tryz.isAgg9
 z9:=Tryz.sizeOf9
 v9:=Tryz.zeroValue9
 t20:=Tryz.underlying20
 a20:=Tryz.isAgg20
 z20:=Tryz.sizeOf20
 v20:=Tryz.zeroValue20
 t31:=Tryz.underlying89
 a31:=Tryz.isAgg89
 z31:=Tryz.sizeOf89
 v31:=Tryz.zeroValue89
 t37:=Tryz.underlying117
 a37:=Tryz.isAgg117
 z37:=Tryz.sizeOf117
 v37:=Tryz.zeroValue117
 t70:=Tryz.underlying137
 a70:=Tryz.isAgg137
 z70:=Tryz.sizeOf137
 v70:=Tryz.zeroValue137
 t72:=Tryz.underlying139
 a72:=Tryz.isAgg139
 z72:=Tryz.sizeOf139
 v72:=Tryz.zeroValue139
 t75:=Tryz.underlying63
 a75:=Tryz.isAgg63
 z75:=Tryz.sizeOf63
 v75:=Tryz.zeroValue63
 t76:=Tryz.underlying121
 a76:=Tryz.isAgg121
 z76:=Tryz.sizeOf121
 v76:=Tryz.zeroValue121
 t127:=Tryz.underlying175
 a127:=Tryz.isAgg175
 z127:=Tryz.sizeOf175
 v127:=Tryz.zeroValue175
 t164:=Tryz.underlying197
 a164:=Tryz.isAgg197
 z164:=Tryz.sizeOf197
 v164:=Tryz.zeroValue197}
theorem Tryz.Builder_Extra_156:Builder.Extra Tryz.prog Tryz.lays156_ren:={
 sizeBuilder:=by kernel_rfl
 liesBuilder:=by kernel_rfl
 t5:=Tryz.underlying5
 a5:=Tryz.isAgg5
 z5:=Tryz.sizeOf5
 v5:=Tryz.zeroValue5
 infoByte:=by kernel_rfl
 cellsByte:=by kernel_rfl
 sizeByte:=by kernel_rfl
 neB5:=by decide}
end Go.Proofs
namespace Go.Proofs.YtnclklfhjbkjhaaGreatDoor
open Go.RowKit Go.Lib
def y8(o:Option (List (List UInt8)))(v:Value)(n:Nat)(x:List Value):Prop:=match o with
 |none=>v= .slice none 0 0∧n=0∧x=[]
 |some l=>(∃g c,v= .slice (some ⟨g,0,none⟩) n c)∧n=l.length∧∃ss:List ByteArray,x=ss.map .string∧ss.map (·.toList)=l
def ErrL(fn:ByteArray)(P:Nat→Prop)(w:World)(ks:List Nat)(es:List Ps):Prop:=ks.length=es.length∧∀i (h:i<ks.length) (h':i<es.length),P ks[i]∧j5 ks[i] (bS fn es[i].ln es[i].cl) w
def ce(k:Nat):Value:= .iface 169 (.pointer (some ⟨k,0,none⟩))
def dc(x:ByteArray×Bool×Bool):List Value:=[.string x.1,.bool x.2.1,.bool x.2.2]
structure SRel(fn:ByteArray)(s:Sc)(P:Nat→Prop)(V:Nat→Value)(N:Nat→Nat)(X:Nat→List Value)(w:World):Prop where
 imp:y8 s.imp (V 0) (N 0) (X 0)
 pkg:y8 s.pkg (V 1) (N 1) (X 1)
 errs:N 2=s.errs.length∧∃ks,X 2=ks.map ce∧ErrL fn P w ks s.errs
 stk:N 3=s.stk.length∧X 3=s.stk.reverse.map (.int .i64)
 imps:N 4=s.imports.length∧∃is:List (ByteArray×Bool×Bool),X 4=is.flatMap dc∧is.map (fun x=>(x.1.toList,x.2.1,x.2.2))=s.imports
structure Bl where
 fb:Nat
 ob:Nat
 sb:Nat
 xb:Nat
 gb:Nat
 lx:Nat
 ne:ob≠sb
 w0:World
def uV(b:Bl):Value:= .func (.func 30) #[] #[.pointer (some ⟨b.fb,0,none⟩)]
def zp(b:Bl):Value:= .func (.func 32) #[] #[.pointer (some ⟨b.gb,0,none⟩),.pointer (some ⟨b.xb,0,none⟩)]
structure SFix(fn:ByteArray)(b:Bl)(nm:List UInt8)(im:Value)(P:Nat→Prop)(w:World):Prop where
 p:P b.fb∧P b.ob∧P b.sb∧P b.xb∧P b.gb
 f:w.heap[b.fb]? =some (.cells #[.string fn] 9 (0,0))
 o:w.heap[b.ob]? =some (.cells #[.string ⟨#[]⟩,.slice none 0 0] 61 (0,0))
 s:∃t:ByteArray,w.heap[b.sb]? =some (.cells #[.string t,im] 61 (0,0))∧t.toList=nm
 x:w.heap[b.xb]? =some (.cells #[.pointer (some ⟨b.lx,0,none⟩)] 91 (0,0))
 g:w.heap[b.gb]? =some (.cells #[uV b] 96 (0,0))
structure SSl(b:Bl)(s:Sc)(V:Nat→Value)(u:Nat→Value):Prop where
 u4:u 4= .pointer (some ⟨b.ob,0,none⟩)
 u6:u 6= .pointer (some ⟨b.sb,0,none⟩)
 u7:u 7=V 0
 u8:u 8= .bool s.pub
 u9:u 9= .bool s.weak
 u10:u 10=V 1
 u11:u 11=V 2
 u12:u 12=V 3
 u13:u 13= .bool s.ds
 u14:u 14= .pointer (some ⟨b.xb,0,none⟩)
 u15:u 15= .pointer (some ⟨b.gb,0,none⟩)
 u16:u 16=zp b
 u17:u 17= .int .i64 s.pl.ln
 u18:u 18= .int .i64 s.pl.cl
def zI(x:Lx)(u:Nat→Value):Prop:=u 19= .int .i64 x.k∧xQ x.t (u 20)
structure Old(C:RC)(b:Bl)(A:Nat→Prop)(w:World):Prop where
 fr:Fr (· =C.pb) b.w0 w
 inA:∀k,C.pb<k→k<b.w0.heap.size→A k
 bb:b.w0.heap.size≤C.bb
 sb:b.w0.heap.size≤b.sb
 lx:b.w0.heap.size≤b.lx
theorem Old.step{C:RC}{b:Bl}{A A':Nat→Prop}{w w':World}{S:Nat→Prop}(h:Old C b A w)(f:Fr S w w')(hS:∀k,k<b.w0.heap.size→S k→k=C.pb)(hA:∀k,A k→A' k):Old C b A' w':=
 ⟨h.fr.andThen f hS,fun k h1 h2=>hA k (h.inA k h1 h2),h.bb,h.sb,h.lx⟩
structure ScS(C:RC)(rr T:Nat)(R:List Int)(p pv:Ps)(fn:ByteArray)(b:Bl)(s:Sc)(A P:Nat→Prop)(V:Nat→Value)(N:Nat→Nat)(X:Nat→List Value)(w:World):Prop where
 sb:SB C b.lx rr T R p pv A P V N X w
 rel:SRel fn s P V N X w
 fix:SFix fn b s.name (V 4) P w
 low:¬A 11∧¬A 12
 sg:SG w
 old:Old C b A w
def xS(C:RC)(rr T:Nat)(R:List Int)(p pv:Ps)(fn:ByteArray)(b:Bl)(s:Sc)(x:Lx)(a:Act)(w:World):Prop:=
 ∃A P V N X,ScS C rr T R p pv fn b s A P V N X w∧Fr18 (fun u=>SSl b s V u∧zI x u) a
structure Small(s:Sc):Prop where
 imp:∀l,s.imp=some l→l.length≤500000∧l.flatten.length≤1000000000
 pkg:∀l,s.pkg=some l→l.length≤500000∧l.flatten.length≤1000000000
 errs:s.errs.length≤500000
 stk:s.stk.length≤500000
 imps:s.imports.length≤500000
section
variable {fn:ByteArray} {s:Sc} {P:Nat→Prop} {V:Nat→Value} {N:Nat→Nat} {X:Nat→List Value} {w w':World} {b:Bl} {nm:List UInt8} {im:Value}
theorem ErrL.fr{S:Nat→Prop}{ks:List Nat}{es:List Ps}(h:ErrL fn P w ks es)(f:Fr S w w')(hS:∀k,P k→¬S k):ErrL fn P w' ks es:=
 ⟨h.1,fun i hi hi'=>by
  obtain⟨h1,v,h2⟩:=h.2 i hi hi';exact⟨h1,v,f.blk (hS _ h1) h2⟩⟩
theorem ErrL.more{P':Nat→Prop}{ks:List Nat}{es:List Ps}(h:ErrL fn P w ks es)(hP:∀k,P k→P' k):ErrL fn P' w ks es:=⟨h.1,fun i hi hi'=>⟨hP _ (h.2 i hi hi').1,(h.2 i hi hi').2⟩⟩
theorem ErrL.snoc{ks:List Nat}{es:List Ps}{k:Nat}{e:Ps}(h:ErrL fn P w ks es)(hk:P k)(hb:j5 k (bS fn e.ln e.cl) w):ErrL fn P w (ks++ [k]) (es++ [e]):=by
 refine⟨by rw[qk,qk,h.1];rfl,fun i hi hi'=>?_⟩;rw[qk] at hi hi';simp only[List.length_cons,List.length_nil] at hi hi';have hl:=h.1;by_cases e':i<ks.length
 ·rw[List.getElem_append_left e',List.getElem_append_left (show i<es.length by omega)];exact h.2 i e' (by omega)
 ·have e1:i=ks.length:=by omega
  have e2:i=es.length:=by omega
  simp only[e1,List.getElem_concat_length];subst e1;simp only[e2,List.getElem_concat_length];exact⟨hk,hb⟩
theorem SRel.fr{S:Nat→Prop}(h:SRel fn s P V N X w)(f:Fr S w w')(hS:∀k,P k→¬S k):SRel fn s P V N X w':=by
 obtain⟨ks,h1,h2⟩:=h.errs.2;exact⟨h.imp,h.pkg,⟨h.errs.1,ks,h1,h2.fr f hS⟩,h.stk,h.imps⟩
theorem SFix.fr{S:Nat→Prop}(h:SFix fn b nm im P w)(f:Fr S w w')(hS:∀k,P k→¬S k):SFix fn b nm im P w':=by
 obtain⟨t,ht,hn⟩:=h.s;obtain⟨p1,p2,p3,p4,p5⟩:=h.p;exact⟨h.p,f.blk (hS _ p1) h.f,f.blk (hS _ p2) h.o,⟨t,f.blk (hS _ p3) ht,hn⟩,f.blk (hS _ p4) h.x,f.blk (hS _ p5) h.g⟩
end
section
variable {C:RC} {rr T:Nat} {R:List Int} {p pv:Ps} {fn:ByteArray} {b:Bl} {s:Sc} {A P:Nat→Prop} {V:Nat→Value} {N:Nat→Nat} {X:Nat→List Value} {w w':World}
theorem ScS.keep(h:ScS C rr T R p pv fn b s A P V N X w)(k:Keep w w'):ScS C rr T R p pv fn b s A P V N X w':=
 ⟨h.sb.keep k,h.rel.fr k fun _ _ e=>e,h.fix.fr k fun _ _ e=>e,h.low,h.sg.keep k,h.old.step k (fun _ _ e=>e.elim) fun _ e=>e⟩
theorem ScS.lexed(h:ScS C rr T R p pv fn b s A P V N X w)(f:Fr (LxF C b.lx A) w w'){ok:Bool}{R':List Int}{p' pv':Ps}(hl:LxSt C b.lx rr A ok T 0 R' p' pv' w'):ScS C rr T R' p' pv' fn b s A P V N X w':=by
 have hn:∀k,P k→¬LxF C b.lx A k:=fun k hk e=>e.elim (fun e=>e.2 (h.sb.pin k hk).1) (h.sb.pin k hk).2
 exact⟨h.sb.lexed f hl,h.rel.fr f hn,h.fix.fr f hn,h.low,h.sg.fr f h.low hl.la,h.old.step f (fun k hk e=>by
  rcases e with⟨e1,e2⟩|e
  ·rcases Nat.lt_or_ge C.pb k with e3|e3
   ·exact absurd (h.old.inA k e3 hk) e2
   ·omega
  ·have:=h.old.lx;omega) fun _ e=>e⟩
end
end Go.Proofs.YtnclklfhjbkjhaaGreatDoor
namespace Go.Proofs.YtnclklfhjbkjhaaGreatDoor
open Tryz
open Go.RowKit Go.Lib
theorem jn:(prog.info? 9).map (fun i=>(i.zero,i.size,i.bytes))=some (some (.string ⟨#[]⟩),1,16):=by kernel_rfl
theorem dm:(prog.info? 75).map (fun i=>(i.zero,i.size,i.bytes))=some (some .nilIface,1,16):=by kernel_rfl
theorem iE:(prog.info? 101).map (fun i=>(i.zero,i.size,i.bytes))=some (some (.int .i64 0),1,8):=by kernel_rfl
theorem oo:(prog.info? 70).map (fun i=>(i.zero,i.size,i.bytes))=some (some (.agg #[.string ⟨#[]⟩,.bool false,.bool false]),3,24):=by kernel_rfl
section
variable {ops:Array Oper} {rest:List Oper} {Q:Exit→Act→World→Prop} {a:Act} {w:World} {pos:String} {after:Array Edge} {ty:TypeId}
theorem appV(T e:TypeId)(z:Value)(sz by_:Nat)(hT:prog.underlying T=some (.slice e))(hinfo:(prog.info? e).map (fun i=>(i.zero,i.size,i.bytes))=some (some z,sz,by_))(hz:z.cells.size=sz)(h0:0<sz)(hby:by_≤1000)
  {B m:Nat} {v:Value} {xs:List Value} (hown:w.ownsRow B e sz v m xs) (hB:B≤w.heap.size) (hm:m≤1000000) {b c:Nat} {cs:Array Value} (hcs:cs.size=sz) (h1:∀u∈cs.toList,u.oneCell'=true) (hb:w.heap[b]? =some (.cells cs e (0,0)))
  {d:Option Tmp} {s x:Tmp} (hs:a.tmps.getD s undef=v) (hx:a.tmps.getD x undef= .slice (some ⟨b,0,none⟩) 1 c)
  (next:∀v' w',(∃g kc,v'= .slice (some ⟨g,0,none⟩) (m+1) kc∧g<w'.heap.size)→w'.ownsRow B e sz v' (m+1) (xs++cs.toList)→Fr (fun k=>v.ownBlock=some k) w w'→OwnStep w v v'→wpList prog ops Q rest (a.put d v') w'):
  wpList prog ops Q ({dst:=d,op:= .call {callee:= .builtin .append,args:=#[.tmp s,.tmp x],argTypes:=#[T,T]},type:=ty,pos:=pos,after:=after,guard:=none} ::rest) a w:=by
 refine wpList_step fun K hK=>?_
 refine cU rfl (.tmp s) (.tmp x) T e z sz by_ hT hinfo hz h0 hby rfl (B:=B) (m:=m) (v:=v) (xs:=xs) hs hown b cs hcs h1 hb (c:=c) hx hm hB ?_;intro g gc w' h1 h2 h3;refine hK _ _ (next _ w' ⟨g,gc,rfl,(ar h1 rfl).2⟩ h1 h2 fun x hx=>?_);have hx':g=x:=Option.some.inj hx;subst hx';exact h3
end
theorem eu(l:List (List UInt8))(t:List UInt8):(l++ [t]).flatten=l.flatten++t:=by simp
section
variable {C:RC} {rr T:Nat} {R:List Int} {p pv:Ps} {fn:ByteArray} {b:Bl} {s:Sc} {A P:Nat→Prop} {V:Nat→Value} {N:Nat→Nat} {X:Nat→List Value} {w w':World}
theorem own_lt{v:Value}{B n sz:Nat}{e:TypeId}{xs:List Value}(h:w.ownsRow B e sz v n xs):∀g,v.ownBlock=some g→g<w.heap.size:=fun _ hg=>(ar h hg).2
theorem ScS.off(h:ScS C rr T R p pv fn b s A P V N X w)(i:Nat)(hi:i<5):∀k,P k→¬ (V i).ownBlock=some k:=fun k hk e=>(h.sb.own i hi k e).2.1 hk
theorem ScS.lo24(h:ScS C rr T R p pv fn b s A P V N X w)(i:Nat)(hi:i<5):∀g,(V i).ownBlock=some g→24≤g:=fun g hg=>by
 have:=(ar (h.sb.rows i hi) hg).1;have:=C.lo;omega
theorem ScS.push(h:ScS C rr T R p pv fn b s A P V N X w)(i:Nat)(hi:i<4){v':Value}{n':Nat}{x':List Value}{s':Sc}(hr:w'.ownsRow (C.bb+1) (mF i) (qv i) v' n' x')(f:Fr (fun k=>(V i).ownBlock=some k) w w')(hs:OwnStep w (V i) v')
  (hrel:SRel fn s' P (up V i v') (up N i n') (up X i x') w') (hn:s'.name=s.name):
  ScS C rr T R p pv fn b s' (fun j=>A j∨v'.ownBlock=some j) P (up V i v') (up N i n') (up X i x') w':=by
 have h24:∀g,v'.ownBlock=some g→24≤g:=fun g hg=>by
  have:=(ar hr hg).1;have:=C.lo;omega
 refine⟨h.sb.push i (by omega) hr f hs (own_lt hr),hrel,?_,?_,?_,h.old.step f (fun k hk e=>by
  have:=(ar (h.sb.rows i (by omega)) e).1;have:=h.old.bb;omega) fun _ e=> .inl e⟩
 ·rw[dz (show 4≠i by omega),hn];exact h.fix.fr f (h.off i (by omega))
 ·constructor
  ·rintro(e|e)
   ·exact h.low.1 e
   ·have:=h24 _ e;omega
  ·rintro(e|e)
   ·exact h.low.2 e
   ·have:=h24 _ e;omega
 ·obtain⟨⟨T1,a1,e1⟩,⟨T2,a2,e2⟩⟩:=h.sg;exact⟨⟨T1,a1,Fr.cell f (fun e=>by have:=h.lo24 i (by omega) _ e;omega) e1⟩,⟨T2,a2,Fr.cell f (fun e=>by have:=h.lo24 i (by omega) _ e;omega) e2⟩⟩
theorem ScS.add(h:ScS C rr T R p pv fn b s A P V N X w)(f:Keep w w')(k:Nat)(hk:w.heap.size≤k∧k<w'.heap.size):ScS C rr T R p pv fn b s (fun j=>A j∨j=k) (fun j=>P j∨j=k) V N X w':=by
 have h':=h.keep f;have h24:24≤k:=by
  have h1:=h.sb.lxs;obtain⟨ok,hl⟩:=h1;have:=hl.ru.bbl;have:=C.lo;omega
 obtain⟨ks,h1,h2⟩:=h'.rel.errs.2;obtain⟨p1,p2,p3,p4,p5⟩:=h'.fix.p;refine⟨h.sb.add f k hk,⟨h'.rel.imp,h'.rel.pkg,⟨h'.rel.errs.1,ks,h1,h2.more fun _ e=> .inl e⟩,h'.rel.stk,h'.rel.imps⟩,⟨⟨.inl p1,.inl p2,.inl p3,.inl p4,.inl p5⟩,h'.fix.f,h'.fix.o,h'.fix.s,h'.fix.x,h'.fix.g⟩,?_,h'.sg,h'.old.step (Fr.refl _) (S:=fun _=>False) (fun _ _ e=>e.elim) fun _ e=> .inl e⟩;constructor
 ·rintro(e|e)
  ·exact h.low.1 e
  ·omega
 ·rintro(e|e)
  ·exact h.low.2 e
  ·omega
theorem ScS.impMore(h:ScS C rr T R p pv fn b s A P V N X w){l:List (List UInt8)}(hl:s.imp=some l){t:ByteArray}{v':Value}(hv:∃g c,v'= .slice (some ⟨g,0,none⟩) (N 0+1) c∧g<w'.heap.size)(hr:w'.ownsRow (C.bb+1) 9 1 v' (N 0+1) (X 0++ [.string t]))(f:Fr (fun k=>(V 0).ownBlock=some k) w w')(hs:OwnStep w (V 0) v'):
  ScS C rr T R p pv fn b {s with imp:=some (l++ [t.toList])} (fun j=>A j∨v'.ownBlock=some j) P (up V 0 v') (up N 0 (N 0+1)) (up X 0 (X 0++ [.string t])) w':=by
 have hrel:=h.rel.fr f (h.off 0 (by decide));have hi:=h.rel.imp;rw[hl] at hi;obtain⟨-,h2,ss,h3,h4⟩:=hi;obtain⟨g,c,hv,-⟩:=hv;refine h.push 0 (by decide) hr f hs ⟨⟨⟨g,c,hv⟩,?_,ss++ [t],?_,?_⟩,hrel.pkg,hrel.errs,hrel.stk,hrel.imps⟩ rfl
 ·show N 0+1=_;rw[h2,qk];rfl
 ·show X 0++ [.string t]=_;rw[h3,List.map_append];rfl
 ·rw[List.map_append,h4];rfl
theorem ScS.pkgMore(h:ScS C rr T R p pv fn b s A P V N X w){l:List (List UInt8)}(hl:s.pkg=some l){t:ByteArray}{v':Value}(hv:∃g c,v'= .slice (some ⟨g,0,none⟩) (N 1+1) c∧g<w'.heap.size)(hr:w'.ownsRow (C.bb+1) 9 1 v' (N 1+1) (X 1++ [.string t]))(f:Fr (fun k=>(V 1).ownBlock=some k) w w')(hs:OwnStep w (V 1) v'):
  ScS C rr T R p pv fn b {s with pkg:=some (l++ [t.toList])} (fun j=>A j∨v'.ownBlock=some j) P (up V 1 v') (up N 1 (N 1+1)) (up X 1 (X 1++ [.string t])) w':=by
 have hrel:=h.rel.fr f (h.off 1 (by decide));have hi:=h.rel.pkg;rw[hl] at hi;obtain⟨-,h2,ss,h3,h4⟩:=hi;obtain⟨g,c,hv,-⟩:=hv;refine h.push 1 (by decide) hr f hs ⟨hrel.imp,⟨⟨g,c,hv⟩,?_,ss++ [t],?_,?_⟩,hrel.errs,hrel.stk,hrel.imps⟩ rfl
 ·show N 1+1=_;rw[h2,qk];rfl
 ·show X 1++ [.string t]=_;rw[h3,List.map_append];rfl
 ·rw[List.map_append,h4];rfl
theorem ScS.errMore(h:ScS C rr T R p pv fn b s A P V N X w){e:Ps}{k:Nat}{v':Value}(hP:P k)(hb:j5 k (bS fn e.ln e.cl) w)(hr:w'.ownsRow (C.bb+1) 75 1 v' (N 2+1) (X 2++ [ce k]))(f:Fr (fun k=>(V 2).ownBlock=some k) w w')(hs:OwnStep w (V 2) v'):
  ScS C rr T R p pv fn b {s with errs:=s.errs++ [e]} (fun j=>A j∨v'.ownBlock=some j) P (up V 2 v') (up N 2 (N 2+1)) (up X 2 (X 2++ [ce k])) w':=by
 have hrel:=h.rel.fr f (h.off 2 (by decide));obtain⟨ks,h1,h2⟩:=hrel.errs.2;have hb':j5 k (bS fn e.ln e.cl) w':=by
  obtain⟨v,hb⟩:=hb;exact⟨v,f.blk (h.off 2 (by decide) k hP) hb⟩
 refine h.push 2 (by decide) hr f hs ⟨hrel.imp,hrel.pkg,⟨?_,ks++ [k],?_,h2.snoc hP hb'⟩,hrel.stk,hrel.imps⟩ rfl
 ·show N 2+1=_;rw[hrel.errs.1,qk];rfl
 ·show X 2++ [ce k]=_;rw[h1,List.map_append];rfl
theorem ScS.open_(h:ScS C rr T R p pv fn b s A P V N X w){k:Int}{v':Value}(hr:w'.ownsRow (C.bb+1) 101 1 v' (N 3+1) (X 3++ [.int .i64 k]))(f:Fr (fun k=>(V 3).ownBlock=some k) w w')(hs:OwnStep w (V 3) v'):
  ScS C rr T R p pv fn b {s with stk:=k::s.stk} (fun j=>A j∨v'.ownBlock=some j) P (up V 3 v') (up N 3 (N 3+1)) (up X 3 (X 3++ [.int .i64 k])) w':=by
 have hrel:=h.rel.fr f (h.off 3 (by decide));refine h.push 3 (by decide) hr f hs ⟨hrel.imp,hrel.pkg,hrel.errs,⟨?_,?_⟩,hrel.imps⟩ rfl
 ·show N 3+1=_;rw[hrel.stk.1];rfl
 ·show X 3++ [.int .i64 k]=_;rw[hrel.stk.2,List.reverse_cons,List.map_append];rfl
theorem ScS.impNone(h:ScS C rr T R p pv fn b s A P V N X w):∃A',ScS C rr T R p pv fn b {s with imp:=none} A' P (up V 0 (.slice none 0 0)) (up N 0 0) (up X 0 []) w:=
 ⟨_,h.push 0 (by decide) (v':= .slice none 0 0) (n':=0) (x':=[]) ⟨by simp,.inl ⟨rfl,rfl⟩⟩ (Fr.refl w) (fun g hg=>by simp[Value.ownBlock] at hg) ⟨⟨rfl,rfl,rfl⟩,h.rel.pkg,h.rel.errs,h.rel.stk,h.rel.imps⟩ rfl⟩
theorem ScS.pkgNone(h:ScS C rr T R p pv fn b s A P V N X w):∃A',ScS C rr T R p pv fn b {s with pkg:=none} A' P (up V 1 (.slice none 0 0)) (up N 1 0) (up X 1 []) w:=
 ⟨_,h.push 1 (by decide) (v':= .slice none 0 0) (n':=0) (x':=[]) ⟨by simp,.inl ⟨rfl,rfl⟩⟩ (Fr.refl w) (fun g hg=>by simp[Value.ownBlock] at hg) ⟨h.rel.imp,⟨rfl,rfl,rfl⟩,h.rel.errs,h.rel.stk,h.rel.imps⟩ rfl⟩
end
end Go.Proofs.YtnclklfhjbkjhaaGreatDoor
namespace Go.Proofs.YtnclklfhjbkjhaaGreatDoor
open Tryz
open Go.RowKit Go.Lib
section
variable {C:RC} {rr T:Nat} {R:List Int} {p pv:Ps} {fn:ByteArray} {b:Bl} {s:Sc} {A P:Nat→Prop} {V:Nat→Value} {N:Nat→Nat} {X:Nat→List Value} {w w':World}
theorem ScS.bbl(h:ScS C rr T R p pv fn b s A P V N X w):C.bb+1≤w.heap.size:=by
 obtain⟨ok,hl⟩:=h.sb.lxs;have:=hl.ru.bbl;omega
theorem new_row{B:Nat}(w:World)(e:TypeId)(hB:B≤w.heap.size):(w.alloc (.cells #[] e)).ownsRow B e 1 (.slice (some ⟨w.heap.size,0,none⟩) 0 0) 0 []:=
 ⟨rfl,.inr ⟨w.heap.size,0,#[],rfl,hB,ql w _,by omega,by unfold maxLen;omega,rfl,rfl⟩⟩
theorem own_new{w:World}{v:Value}{n c:Nat}:OwnStep w v (.slice (some ⟨w.heap.size,0,none⟩) n c):=fun g hg=>by
 have:w.heap.size=g:=Option.some.inj hg;exact .inr (by omega)
theorem ScS.impNew(h:ScS C rr T R p pv fn b s A P V N X w):∃A',ScS C rr T R p pv fn b {s with imp:=some []} A' P (up V 0 (.slice (some ⟨w.heap.size,0,none⟩) 0 0)) (up N 0 0) (up X 0 []) (w.alloc (.cells #[] 9)):=by
 have h':=h.rel.fr (Fr.alloc (Fr.refl w) (.cells #[] 9)) (S:=fun _=>False) (fun _ _ e=>e);exact⟨_,h.push 0 (by decide) (new_row w 9 h.bbl) (((Fr.refl w).alloc _).mono fun _ _ e=>(e:False).elim) own_new ⟨⟨⟨_,_,rfl⟩,rfl,[],rfl,rfl⟩,h'.pkg,h'.errs,h'.stk,h'.imps⟩ rfl⟩
theorem ScS.pkgNew(h:ScS C rr T R p pv fn b s A P V N X w):∃A',ScS C rr T R p pv fn b {s with pkg:=some []} A' P (up V 1 (.slice (some ⟨w.heap.size,0,none⟩) 0 0)) (up N 1 0) (up X 1 []) (w.alloc (.cells #[] 9)):=by
 have h':=h.rel.fr (Fr.alloc (Fr.refl w) (.cells #[] 9)) (S:=fun _=>False) (fun _ _ e=>e);exact⟨_,h.push 1 (by decide) (new_row w 9 h.bbl) (((Fr.refl w).alloc _).mono fun _ _ e=>(e:False).elim) own_new ⟨h'.imp,⟨⟨_,_,rfl⟩,rfl,[],rfl,rfl⟩,h'.errs,h'.stk,h'.imps⟩ rfl⟩
theorem ScS.close_(h:ScS C rr T R p pv fn b s A P V N X w){k:Int}{l:List Int}(hs:s.stk=k::l):∃g cap,V 3= .slice (some ⟨g,0,none⟩) (l.length+1) cap∧l.length+1≤cap∧cap≤maxLen∧w.cell? ⟨g,l.length,none⟩=some (.int .i64 k)∧
  ∃A',ScS C rr T R p pv fn b {s with stk:=l} A' P (up V 3 (.slice (some ⟨g,0,none⟩) l.length cap)) (up N 3 l.length) (up X 3 (l.reverse.map (.int .i64))) w:=by
 have hr:=h.sb.rows 3 (by decide);obtain⟨hn,hx⟩:=h.rel.stk;rw[hs] at hn hx;rw[List.length_cons] at hn;have hr':w.ownsRow (C.bb+1) 101 1 (V 3) (l.length+1) (X 3):=hn▸hr;obtain⟨-,h2⟩:=hr';rcases h2 with⟨-,h2⟩|⟨g,cap,cur,hv,h3⟩
 ·omega
 ·have hr2:w.ownsRow (C.bb+1) 101 1 (.slice (some ⟨g,0,none⟩) (l.length+1) cap) (l.length+1) (X 3):=by rw[←hv,←hn];exact hr
  have hlen:(X 3).length=l.length+1:=by rw[hx];simp
  have hc:=bY hr2 l.length (by omega);have htk:(X 3).take l.length=l.reverse.map (.int .i64):=by
   rw[hx,List.reverse_cons,List.map_append,List.take_append_of_le_length (by simp),List.take_of_length_le (by simp)]
  have hpop:=ig hr2;rw[htk] at hpop;refine⟨g,cap,hv,hc.2.1,hc.2.2,?_,_,h.push 3 (by decide) hpop (Fr.refl w) (fun g' hg=> .inl (by rw[hv];exact hg)) ⟨h.rel.imp,h.rel.pkg,h.rel.errs,⟨rfl,rfl⟩,h.rel.imps⟩ rfl⟩
  ·rw[hc.1];congr 1;simp only[hx,List.reverse_cons,List.map_append,List.map_cons,List.map_nil];rw[List.getElem_append_right (by simp)];simp
theorem sb_tag(h:ScS C rr T R p pv fn b s A P V N X w):∀cs,w.heap[b.sb]? ≠some (.cells cs 174 (0,0)):=by
 obtain⟨t,ht,-⟩:=h.fix.s;intro cs e;rw[ht] at e;simp at e
theorem cell_ne{w w':World}{k:Nat}(f:Fr (· =k) w w'){j:Nat}{o:Obj}(h:w.heap[j]? =some o)(hj:j≠k):w'.heap[j]? =some o:=f.blk (fun e=>hj e) h
theorem ScS.named(h:ScS C rr T R p pv fn b s A P V N X w)(t:ByteArray):ScS C rr T R p pv fn b {s with name:=t.toList} A P V N X (w.setCell ⟨b.sb,0,none⟩ (.string t)):=by
 have f:Fr (· =b.sb) w (w.setCell ⟨b.sb,0,none⟩ (.string t)):=(Fr.refl w).setIn (S:=(· =b.sb)) _ rfl;obtain⟨t0,ht,-⟩:=h.fix.s;have hset:(w.setCell ⟨b.sb,0,none⟩ (.string t)).heap[b.sb]? =some (.cells #[.string t,V 4] 61 (0,0)):=by rw[ag ht];rfl
 obtain⟨p1,p2,p3,p4,p5⟩:=h.fix.p;have hne:∀ {j:Nat} {cs:Array Value} {ty:TypeId},w.heap[j]? =some (.cells cs ty (0,0))→ty≠61→j≠b.sb:=by
  intro j cs ty hj hty e;subst e;rw[ht] at hj;simp only[Option.some.injEq,Obj.cells.injEq] at hj;exact hty hj.2.1.symm
 refine⟨h.sb.wrote b.sb p3 f (sb_tag h),?_,⟨h.fix.p,cell_ne f h.fix.f (hne h.fix.f (by decide)),cell_ne f h.fix.o b.ne,⟨t,hset,rfl⟩,cell_ne f h.fix.x (hne h.fix.x (by decide)),cell_ne f h.fix.g (hne h.fix.g (by decide))⟩,h.low,?_,h.old.step f (fun k hk e=>by
  have e':k=b.sb:=e;have:=h.old.sb;omega) fun _ e=>e⟩
 ·obtain⟨ks,h1,h2⟩:=h.rel.errs.2;exact⟨h.rel.imp,h.rel.pkg,⟨h.rel.errs.1,ks,h1,h2.1,fun i hi hi'=>by
   obtain⟨h3,v,h4⟩:=h2.2 i hi hi';exact⟨h3,v,cell_ne f h4 (hne h4 (by decide))⟩⟩,h.rel.stk,h.rel.imps⟩
 ·obtain⟨ok,hl⟩:=h.sb.lxs;have h24:b.sb≠11∧b.sb≠12:=⟨fun e=>h.low.1 (e▸ (h.sb.pin _ p3).1),fun e=>h.low.2 (e▸ (h.sb.pin _ p3).1)⟩;obtain⟨⟨T1,a1,e1⟩,⟨T2,a2,e2⟩⟩:=h.sg;exact⟨⟨T1,a1,Fr.cell f (fun e=>h24.1 e.symm) e1⟩,⟨T2,a2,Fr.cell f (fun e=>h24.2 e.symm) e2⟩⟩
theorem ScS.imported(h:ScS C rr T R p pv fn b s A P V N X w)(x:ByteArray×Bool×Bool){v':Value}(hr:w'.ownsRow (C.bb+1) 70 3 v' (N 4+1) (X 4++dc x))(f:Fr (fun k=>(V 4).ownBlock=some k) w w')(hs:OwnStep w (V 4) v'):
  ∃A',ScS C rr T R p pv fn b {s with imports:=s.imports++ [(x.1.toList,x.2.1,x.2.2)]} A' P (up V 4 v') (up N 4 (N 4+1)) (up X 4 (X 4++dc x)) (w'.setCell ⟨b.sb,1,none⟩ v'):=by
 have h24:∀g,v'.ownBlock=some g→24≤g:=fun g hg=>by
  have:=(ar hr hg).1;have:=C.lo;omega
 have hoff:=h.off 4 (by decide);have hrel:=h.rel.fr f hoff;obtain⟨p1,p2,p3,p4,p5⟩:=h.fix.p;have hsb:=h.sb.push 4 (by decide) hr f hs (own_lt hr);obtain⟨t0,ht0,hn⟩:=h.fix.s;have ht:w'.heap[b.sb]? =some (.cells #[.string t0,V 4] 61 (0,0)):=f.blk (hoff _ p3) ht0;have f2:Fr (· =b.sb) w' (w'.setCell ⟨b.sb,1,none⟩ v'):=(Fr.refl w').setIn (S:=(· =b.sb)) _ rfl;have hset:(w'.setCell ⟨b.sb,1,none⟩ v').heap[b.sb]? =some (.cells #[.string t0,v'] 61 (0,0)):=by rw[ag ht];rfl
 have hne:∀ {j:Nat} {cs:Array Value} {ty:TypeId},w'.heap[j]? =some (.cells cs ty (0,0))→ty≠61→j≠b.sb:=by
  intro j cs ty hj hty e;subst e;rw[ht] at hj;simp only[Option.some.injEq,Obj.cells.injEq] at hj;exact hty hj.2.1.symm
 have hf:=f.blk (hoff _ p1) h.fix.f;have ho:=f.blk (hoff _ p2) h.fix.o;have hx:=f.blk (hoff _ p4) h.fix.x;have hg:=f.blk (hoff _ p5) h.fix.g;refine⟨_,hsb.wrote b.sb p3 f2 (fun cs e=>by rw[ht] at e;simp at e),?_,⟨h.fix.p,cell_ne f2 hf (hne hf (by decide)),cell_ne f2 ho b.ne,⟨t0,hset,hn⟩,cell_ne f2 hx (hne hx (by decide)),cell_ne f2 hg (hne hg (by decide))⟩,?_,?_,(h.old.step f (A':=fun j=>A j∨v'.ownBlock=some j) (fun k hk e=>by
  have:=(ar (h.sb.rows 4 (by decide)) e).1;have:=h.old.bb;omega) fun _ e=> .inl e).step f2 (fun k hk e=>by
  have e':k=b.sb:=e;have:=h.old.sb;omega) fun _ e=>e⟩
 ·obtain⟨ks,h1,h2⟩:=hrel.errs.2;obtain⟨k1,is,k2,k3⟩:=hrel.imps;refine⟨hrel.imp,hrel.pkg,⟨hrel.errs.1,ks,h1,h2.1,fun i hi hi'=>?_⟩,hrel.stk,⟨?_,is++ [x],?_,?_⟩⟩
  ·obtain⟨h3,v,h4⟩:=h2.2 i hi hi';exact⟨h3,v,cell_ne f2 h4 (hne h4 (by decide))⟩
  ·show N 4+1=_;rw[k1,qk];rfl
  ·show X 4++dc x=_;rw[k2,List.flatMap_append];simp
  ·rw[List.map_append,k3];rfl
 ·constructor
  ·rintro(e|e)
   ·exact h.low.1 e
   ·have:=h24 _ e;omega
  ·rintro(e|e)
   ·exact h.low.2 e
   ·have:=h24 _ e;omega
 ·have h24:b.sb≠11∧b.sb≠12:=⟨fun e=>h.low.1 (e▸ (h.sb.pin _ p3).1),fun e=>h.low.2 (e▸ (h.sb.pin _ p3).1)⟩;obtain⟨⟨T1,a1,e1⟩,⟨T2,a2,e2⟩⟩:=h.sg;exact⟨⟨T1,a1,Fr.cell f2 (fun e=>h24.1 e.symm) (Fr.cell f (fun e=>by have:=h.lo24 4 (by decide) _ e;omega) e1)⟩,⟨T2,a2,Fr.cell f2 (fun e=>h24.2 e.symm) (Fr.cell f (fun e=>by have:=h.lo24 4 (by decide) _ e;omega) e2)⟩⟩
end
theorem sJ(l:List (List UInt8)):Lib.join l []=l.flatten:=by
 induction l with
 |nil=>rfl
 |cons a r ih=>
  cases r with
  |nil=>simp[Lib.join]
  |cons b r=>simp only[Lib.join] at ih ⊢;simp[ih]
theorem dZ{B n:Nat}{v:Value}{ss:List ByteArray}{w:World}(h:w.ownsRow B 9 1 v n (ss.map .string))(hn:n=ss.length)(hs:(ss.map (·.toList)).flatten.length≤1000000000)(hl:ss.length≤1000000):
  Calls prog 37 #[v,.string ⟨#[]⟩] w fun e w'=>(∃t:ByteArray,e= .returned (.string t)∧t.toList=(ss.map (·.toList)).flatten)∧Keep w w':=by
 subst hn;rcases h.2 with⟨h1,h2⟩|⟨g,cap,cur,h1,h2,h3,h4⟩
 ·subst h1;rw[List.eq_nil_of_length_eq_zero h2];refine(Any.strings_Join_none Tryz.lays156 Tryz.Builder_Extra_156 none 0 ⟨#[]⟩ w).mono ?_;rintro e w' ⟨rfl,rfl⟩;exact⟨⟨_,rfl,by rw[qi];rfl⟩,Fr.refl _⟩
 ·subst h1;have hc:∀ (j:Nat) x,ss[j]? =some x→w.cell? ⟨g,0+j,none⟩=some (.string x):=by
   intro j x hx;have hj:j<ss.length:=(List.getElem?_eq_some_iff.1 hx).1;have hx':=(List.getElem?_eq_some_iff.1 hx).2;have:=(bY h j (by simpa using hj)).1;rw[Nat.zero_add,this];simp[hx']
  have he:Lib.join (ss.map (·.data.toList)) (⟨#[]⟩:ByteArray).data.toList=(ss.map (·.toList)).flatten:=by
   show Lib.join _ []=_;rw[sJ];congr 1;exact List.map_congr_left fun t _=>by rw[qi]
  refine(Any.strings_Join Tryz.lays156 Tryz.Builder_Extra_156 g 0 cap ss ⟨#[]⟩ w hc (af h3) (by omega) h4.1 (by rw[he];omega)).mono ?_;rintro e w' ⟨rfl,hk⟩;refine⟨⟨_,rfl,?_⟩,Keep.of_below hk⟩;rw[he,qi]
end Go.Proofs.YtnclklfhjbkjhaaGreatDoor
