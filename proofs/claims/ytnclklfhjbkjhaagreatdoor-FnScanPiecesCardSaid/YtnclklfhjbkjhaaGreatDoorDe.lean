/- Part of the proof: D5. -/
import Derived.Test.YtnclklfhjbkjhaaGreatDoorDc
import Derived.Deep.RegionWith
import Derived.Deep.RegionLaw
import Derived.Deep.CutRange
import Derived.Deep.DeepCutAuto
set_option maxRecDepth 1000000
set_option maxHeartbeats 40000000
namespace Go.Proofs.YtnclklfhjbkjhaaGreatDoor
open Tryz
open Go.RowKit Go.Lib
def tT(C:RC)(buf:List UInt8)(tx:ByteArray)(w:World)(e:Ending)(w':World):Prop:=
 e= .returned (.tuple #[])∧Fr (RS C) w w'∧∃n buf' tx' ev',BR C 0 n buf' tx' ev' w'∧buf'++tx'.toList=buf++tx.toList∧(ev'≠ .nilIface∨tx'.size<tx.size)
theorem mU(a:Addr)(w:World):(method 440 66 (.pointer (some a)) "Read").run prog w= .ok (233,.pointer (some a)) w:=by kernel_rfl
theorem sk(a:Addr)(w:World):(nilAhead 440 66 (.pointer (some a)) "Read").run prog w= .ok (some false) w:=by kernel_rfl
theorem BR.store{C:RC}{r e r' e':Nat}{buf buf':List UInt8}{tx:ByteArray}{ev ev':Value}{w w':World}(h:BR C r e buf tx ev w)
  (hb:∃lb ls:Int,w'.heap[C.bb]? =some (.cells #[.slice (some ⟨C.kb,0,none⟩) 4096 4096,.iface 66 (.pointer (some ⟨C.pb,0,none⟩)),.int .i64 r',.int .i64 e',ev',.int .i64 lb,.int .i64 ls] 153 (0,0)))
  (f:Fr (· =C.bb) w w') (hk:∃K,oU C w K∧(K.drop r').take buf'.length=az buf') (hl:e'=r'+buf'.length) (hf:e'≤4096) (he:ev'= .nilIface∨(tx.size=0∧ErrV C ev' w)):BR C r' e' buf' tx ev' w':=by
 obtain⟨K,hK,hK2⟩:=hk;obtain⟨cv,hp,hc⟩:=h.pblk;exact⟨hb,⟨K,⟨f.blk (fun e=>C.n1 e.symm) hK.1,hK.2⟩,hK2⟩,⟨cv,f.blk (fun e=>C.n2 e.symm) hp,hc.keep (f.mono fun _ _ h=> .inl h)⟩,hl,hf,h.sz,he.imp id fun x=>⟨x.1,x.2.fr f fun k cs hk=>h.tag k cs hk⟩,h.glob.fr (f.mono fun _ _ h=> .inl h)⟩
def xV(C:RC)(o n:Nat)(tx:ByteArray)(K:List Value)(w:World)(n1:Int)(v1:Value)(w':World):Prop:=
 (tx.size=0∧n1=0∧ErrV C v1 w'∧Keep w w')∨
 (∃ (m:Nat) (cv':Value) (tx':ByteArray),0<m∧m≤n∧m≤tx.size∧n1=m∧v1= .nilIface∧Fr (fun k=>k=C.kb∨k=C.pb) w w'∧PBlk C w' tx' cv'∧CutsOk C w' cv'∧
  tx'.toList=tx.toList.drop m∧w'.heap[C.kb]? =some (.cells (K.take o++ (az (tx.toList.take m) ++K.drop (o+m))).toArray 5 (0,0)))
theorem mH(C:RC)(o n cp:Nat)(tx:ByteArray)(cv:Value)(K:List Value)(w:World)(hp:PBlk C w tx cv)(hc:CutsOk C w cv)(hk:oU C w K)(hg:Glob C w)(hs:tx.size≤1000000)(hn:0<n)(hon:o+n≤4096):
  Calls prog 233 #[.pointer (some ⟨C.pb,0,none⟩),.slice (some ⟨C.kb,o,none⟩) n cp] w fun e w'=>∃n1 v1,e= .returned (.tuple #[.int .i64 n1,v1])∧xV C o n tx K w n1 v1 w':=by
 by_cases h0:tx.size=0
 ·refine(rL C o n cp tx cv w hp hg h0).mono ?_;rintro e w' ⟨ev,h1,h2,h3⟩;exact⟨0,ev,h2,.inl ⟨h0,rfl,h1,h3⟩⟩
 ·refine(rN C o n cp tx cv K w hp hc hk (by omega) hs hn hon).mono ?_;rintro e w' ⟨m,cv',tx',h1,h2,h3,h4,h5⟩;exact⟨m,_,h4,.inr ⟨m,cv',tx',h1,h2,h3,rfl,rfl,h5⟩⟩
theorem nw(C:RC)(r e:Nat)(buf:List UInt8)(tx:ByteArray)(w:World)(h:BR C r e buf tx .nilIface w)(hb:buf.length<4096):
  Calls prog 93 #[.pointer (some ⟨C.bb,0,none⟩)] w (tT C buf tx w):=by
 have HR0:=Z h;clear h;have hn1:=C.n1;have hn2:=C.n2;have hn3:=C.n3;have hm:=mU;have hna:=sk;go_enter func93,ntmps93;obtain⟨b1,b2,b3,c0,c1,c2,c3,c4,f2,f3,f4,-,-⟩:=HR0.facts;have hl:=HR0.len;have hfit:=HR0.fit;by_cases hr:r=0
 ·subst hr;have hm0:¬ (((0:Nat):Int) >0):=by omega
  refine aG (fun wc=>Hid (BR C 0 buf.length buf tx .nilIface wc∧Fr (RS C) w wc)) (Z ⟨by rw[show buf.length=e from by omega];exact HR0.out,Fr.refl w⟩) ?_;intro wc hcut;clear b1 b2 b3 c0 c1 c2 c3 c4 f2 f3 f4 hl hfit;obtain⟨n0,hn0⟩:∃n0,buf.length=n0:=⟨_,rfl⟩;have HR:Hid (BR C 0 n0 buf tx .nilIface wc):=hn0▸hcut.out.1;have HW:Hid (Fr (RS C) w wc):=hcut.out.2;clear hcut HR0;obtain⟨b1,b2,b3,c0,c1,c2,c3,c4,f2,f3,f4,-,-⟩:=HR.facts;have hlt:(n0:Int) <4096:=by omega
  have hlt':¬ ((n0:Int)≥4096):=by omega
  go_wp2_with fail;go_region;go_wp2_with fail;refine aG (fun x=>Hid (BR C 0 n0 buf tx .nilIface x∧Fr (RS C) w x)) (Z ⟨HR.keep ((Fr.refl wc).drew),HW.drew⟩) ?_;intro x HX;go_loopw [2] (fun u wr=>u= .int .i64 100∧wr=x) (fun _ _=>0)
  case atStart=>exact⟨rfl,rfl⟩
  case round=>
   obtain⟨rfl,rfl⟩:=hrel;obtain⟨b1,b2,b3,c0,c1,c2,c3,c4,f2,f3,f4,-,-⟩:=HX.1.facts;go_wp2_with fail;obtain⟨cv,hp,hcv⟩:=HX.1.pblk;obtain⟨K,hK,hK2⟩:=HX.1.kblk;have HP:=Z hp;have HC:=Z hcv;have HK:=Z hK;have HK2:=Z hK2;clear hp hcv hK hK2;have he1:(0:Int)≤(n0:Int):=by omega
   have he2:(n0:Int)≤4096:=by omega
   have hne4:¬ (4096=n0):=by omega
   have HF:=Z HX;go_cut [3,4] (fun u v wx=>∃n1,u= .int .i64 n1∧Hid (xV C n0 (4096-n0) tx K wr.drew n1 v wx))
   case first=>
    go_region_with (go_at_call 233;refine(mH C _ _ _ tx cv K _ (Keep.blk ((Fr.refl wr).drew) HP) (HC.keep (Fr.refl wr).drew) ⟨HK.1,HK.2⟩ (HX.1.glob.fr (Fr.refl wr).drew) HX.1.sz (by omega) (by omega)).mono ?_;rintro e' w2 ⟨n1,v1,rfl,hR⟩)
    all_goals
     go_wp2_with fail;go_meet;exact⟨n1,rfl,hR⟩
   case rest=>
    obtain⟨n1,rfl,hR⟩:=hcut;clear b1 b2 b3 c0 c1 c2 c3 c4 f2 f3 f4;rcases hR.out with⟨h0,rfl,hev,hk⟩|⟨m,cv',tx',h1,h2,h3,rfl,rfl,h4,h5,h6,h7,h8⟩
    ·have RW:=Z ((HX.1.keep ((Fr.refl wr).drew)).keep hk);have HFF:=Z ((HX.2.drew).keep hk);obtain⟨b,hb⟩:∃b,u4= .iface 172 (.pointer (some b)):=by
      rcases hev with⟨-,b,-,-,h⟩|⟨-,h⟩
      ·exact⟨_,h⟩
      ·exact⟨_,h⟩
     have HEV:=Z hev;subst hb;clear hk hev hR;obtain⟨b1,b2,b3,c0,c1,c2,c3,c4,f2,f3,f4,-,-⟩:=RW.facts;go_wp2_with fail;refine qh (results_none rfl _ _ _) rfl ?_;obtain⟨lb,ls,hbb⟩:=RW.bblk;have hf2:∀u v:Value,Fr (· =C.bb) wc ((wc.setCell ⟨C.bb,3,none⟩ u).setCell ⟨C.bb,4,none⟩ v):=fun u v=>Fr.setIn (S:=(· =C.bb)) (p:=⟨C.bb,4,none⟩) (Fr.setIn (S:=(· =C.bb)) (p:=⟨C.bb,3,none⟩) (Fr.refl wc) u rfl) v rfl
     refine⟨rfl,(HFF.setIn _ (.inl rfl)).setIn _ (.inl rfl),n0,buf,tx,.iface 172 (.pointer (some b)),?_,rfl,.inl (by simp)⟩;refine RW.store ⟨lb,ls,?_⟩ (hf2 _ _) RW.kblk RW.len RW.fit (.inr ⟨h0,HEV⟩);rw[ag (ag hbb _ _)];simp
    ·have h4':Fr (RS C) wr.drew wc:=h4.mono fun k _ hk=>by rcases hk with h|h;exact .inr (.inl h);exact .inr (.inr h)
     have hnb:¬ (C.bb=C.kb∨C.bb=C.pb):=by rintro(h|h);exact hn1 h;exact hn2 h
     obtain⟨lb,ls,hbb⟩:=HX.1.bblk;have hbc:=h4.blk hnb (Keep.blk ((Fr.refl wr).drew) hbb);have b1:=af hbc;have c3:wc.cell? ⟨C.bb,3,none⟩=some (.int .i64 n0):=ab hbc 3;have f3:wc.frozen? ⟨C.bb,3,none⟩=false:=ae hbc 3;have h1z:(0:Int) < (m:Int):=by omega
     have H5:=Z h5;have H6:=Z h6;have H7:=Z h7;have H8:=Z h8;have HBC:=Z hbc;have HFF:=Z ((HX.2.drew).trans h4');have h4r:=h4';clear h4 h4' h5 h6 h7 h8 hbc hbb hnb hR;go_wp2_with fail;refine qh (results_none rfl _ _ _) rfl ?_;have hlen:n0=0+buf.length:=HX.1.len;have hlt:=aR tx;have hlm:(az (tx.toList.take m)).length=m:=by unfold az;rw[List.length_map,List.length_take];omega
     have hf:Fr (· =C.bb) wc (wc.setCell ⟨C.bb,3,none⟩ (.int .i64 ((n0:Int)+(m:Int)))):=(Fr.refl wc).setIn _ rfl;refine⟨rfl,HFF.setIn _ (.inl rfl),n0+m,buf++tx.toList.take m,tx',.nilIface,?_,?_,.inr ?_⟩
     ·refine⟨⟨lb,ls,?_⟩,⟨_,⟨hf.blk (fun h=>hn1 h.symm) H8,?_,?_⟩,?_⟩,⟨cv',hf.blk (fun h=>hn2 h.symm) H5,H6.keep (hf.mono fun _ _ h=> .inl h)⟩,?_,?_,?_,.inl rfl,(HX.1.glob.fr (Fr.refl wr).drew).fr ((h4r).trans (hf.mono fun _ _ h=> .inl h))⟩
      ·rw[ag HBC.out];simp
      ·have:=HK.2.1;simp[hlm];omega
      ·intro v hv;simp only[List.mem_append] at hv;rcases hv with hv|hv|hv
       ·exact HK.2.2 v (List.mem_of_mem_take hv)
       ·unfold az at hv;simp only[List.mem_map] at hv;obtain⟨b,-,rfl⟩:=hv;exact⟨b,rfl⟩
       ·exact HK.2.2 v (List.mem_of_mem_drop hv)
      ·have hk2:=HK2.out;have hk3:=HK.2.1;rw[List.drop_zero] at hk2 ⊢;rw[show n0=buf.length from by omega,hk2,←qs,List.take_append_of_le_length (by simp[az]),List.take_of_length_le (by simp[az])];simp[az]
      ·simp[List.length_take];omega
      ·omega
      ·have:=HX.1.sz;have h9:=congrArg List.length H7.out;rw[aR,List.length_drop,aR] at h9;omega
     ·rw[H7.out,qs,List.take_append_drop]
     ·have h9:=congrArg List.length H7.out;rw[aR,List.length_drop,aR] at h9;omega
 ·have hr0:(0:Int) < (r:Int):=by omega
  have hr1:(r:Int)≤(e:Int):=by omega
  have hr2:(e:Int)≤4096:=by omega
  have hr3:(r:Int)≤4096:=by omega
  obtain⟨K,hK,hK2⟩:=HR0.kblk;have HK:=Z hK;have HK2:=Z hK2;have HL:=Z hl;have HFI:=Z hfit;clear hK hK2 hl hfit;have HSRC:Hid (∀j v,(az buf)[j]? =some v→w.cell? ((⟨C.kb,r,none⟩:Addr).add j)=some v):=by
   intro j v hj;rw[←HK2.out] at hj;rw[List.getElem?_take] at hj;split at hj
   ·rw[List.getElem?_drop] at hj;have:=ab HK.1 (r+j);rw[show(⟨C.kb,r,none⟩:Addr).add j=⟨C.kb,r+j,none⟩ from by simp[Addr.add],this];simpa using hj
   ·cases hj
  have HB1:Hid (∀v∈az buf,v.oneCell'=true):=by
   intro v hv;unfold az at hv;simp only[List.mem_map] at hv;obtain⟨b,-,rfl⟩:=hv;rfl
  have HBL:Hid ((az buf).length=buf.length):=by show(az buf).length=buf.length;simp[az]
  have HKL:Hid (K.length=4096):=HK.2.1;have HMIN:Hid ((az buf).length=Nat.min (e-r) 4096):=by
   show(az buf).length=Nat.min (e-r) 4096;rw[HBL.out];have:=HL.out;have:=HFI.out;have h1:Nat.min (e-r) 4096=e-r:=Nat.min_eq_left (by omega);omega
  go_wp2_with fail;go_cut [] (fun wx=>Hid (wx.heap[C.kb]? =some (.cells (K.take 0++ (az buf++K.drop (0+(az buf).length))).toArray 5 (0,0))∧Fr (· =C.kb) w wx))
  case first=>
   by_cases hne4:4096=r
   ·have hq:(4096:Int)≤(e:Int):=by omega
    have hqe:e=4096:=by omega
    subst hne4;subst hqe;go_region_law (refine ke rfl (.tmp 13) (.tmp 26) 117 117 rfl 5 (by kernel_rfl) (by kernel_rfl) _ _ _ _ _ _ rfl rfl C.kb 0 K 5 HK.1 (az buf) HMIN.out (fun h=>absurd h (by rw[HBL.out];have:=HL.out;have:=HFI.out;omega)) (by rw[HBL.out,HKL.out];have:=HL.out;have:=HFI.out;omega) HB1.out ?_;intro w8 h8 f8)
    all_goals
     go_wp2_with fail;go_meet;exact⟨h8,((Fr.refl w).drew).trans f8⟩
   ·go_region_law (refine ke rfl (.tmp 13) (.tmp 26) 117 117 rfl 5 (by kernel_rfl) (by kernel_rfl) _ _ _ _ _ _ rfl rfl C.kb 0 K 5 HK.1 (az buf) HMIN.out (fun _=>⟨rfl,_,rfl,HSRC.out⟩) (by rw[HBL.out,HKL.out];have:=HL.out;have:=HFI.out;omega) HB1.out ?_;intro w8 h8 f8)
    all_goals
     go_wp2_with fail;go_meet;exact⟨h8,((Fr.refl w).drew).trans f8⟩
  case rest=>
   obtain⟨h8,f8⟩:=hcut;obtain⟨lb,ls,hbb⟩:=HR0.bblk;have hbc:=f8.blk hn1 hbb;have HBC:=Z hbc;have H8:=Z h8;have F8:=Z f8;clear b1 b2 b3 c0 c1 c2 c3 c4 f2 f3 f4 h8 f8 hbb;have b1:=af hbc;have c2:wc.cell? ⟨C.bb,2,none⟩=some (.int .i64 r):=ab hbc 2;have c3:wc.cell? ⟨C.bb,3,none⟩=some (.int .i64 e):=ab hbc 3;have f2:wc.frozen? ⟨C.bb,2,none⟩=false:=ae hbc 2;have f3:wc.frozen? ⟨C.bb,3,none⟩=false:=ae hbc 3;have hsub:(e:Int) - (r:Int)=(buf.length:Int):=by have:=HL.out;omega
   clear hbc;go_wp2_with fail;go_region;go_wp2_with fail
   try clear b1
   try clear c2
   try clear c3
   try clear f2
   try clear f3
   refine aG (fun wf=>Hid (BR C 0 buf.length buf tx .nilIface wf∧Fr (RS C) w wf)) ?_ ?_
   ·have hfW:Fr (· =C.bb) wc ((wc.setCell ⟨C.bb,3,none⟩ (.int .i64 buf.length)).setCell ⟨C.bb,2,none⟩ (.int .i64 0)).drew:=
     (Fr.setIn (S:=(· =C.bb)) (p:=⟨C.bb,2,none⟩) (Fr.setIn (S:=(· =C.bb)) (p:=⟨C.bb,3,none⟩) (Fr.refl wc) _ rfl) _ rfl).drew
    have f8':Fr (RS C) w wc:=F8.mono fun _ _ h=> .inr (.inl h)
    have fW':=f8'.trans (hfW.mono fun _ _ h=> .inl h);obtain⟨cv,hp,hc⟩:=HR0.pblk;refine Z ⟨⟨⟨lb,ls,?_⟩,⟨_,⟨hfW.blk (fun h=>hn1 h.symm) H8,?_,?_⟩,?_⟩,⟨cv,hfW.blk (fun h=>hn2 h.symm) (F8.blk (fun h=>hn3 h.symm) hp),hc.keep fW'⟩,?_,by omega,HR0.sz,.inl rfl,HR0.glob.fr fW'⟩,fW'⟩
    ·show((wc.setCell ⟨C.bb,3,none⟩ (.int .i64 buf.length)).setCell ⟨C.bb,2,none⟩ (.int .i64 0)).heap[C.bb]? =_;rw[ag (ag HBC.out _ _)];simp
    ·have h1:=HKL.out;have h2:=HBL.out;simp[h1,h2];omega
    ·intro v hv;simp only[List.take_zero,List.nil_append,List.mem_append] at hv;rcases hv with hv|hv
     ·unfold az at hv;simp only[List.mem_map] at hv;obtain⟨b,-,rfl⟩:=hv;exact⟨b,rfl⟩
     ·exact HK.2.2 v (List.mem_of_mem_drop hv)
    ·rw[List.drop_zero,List.take_zero,List.nil_append,List.take_append_of_le_length (by rw[HBL.out];exact Nat.le_refl _),List.take_of_length_le (by rw[HBL.out];exact Nat.le_refl _)]
    ·omega
   clear hsub;intro wf hcut2;obtain⟨n0,hn0⟩:∃n0,buf.length=n0:=⟨_,rfl⟩;have HR:Hid (BR C 0 n0 buf tx .nilIface wf):=hn0▸hcut2.out.1;have HW:Hid (Fr (RS C) w wf):=hcut2.out.2;clear hcut2 HR0;obtain⟨b1,b2,b3,c0,c1,c2,c3,c4,f2,f3,f4,-,-⟩:=HR.facts;have hlt:(n0:Int) <4096:=by omega
   have hlt':¬ ((n0:Int)≥4096):=by omega
   go_wp2_with fail;go_region;go_wp2_with fail;refine aG (fun x=>Hid (BR C 0 n0 buf tx .nilIface x∧Fr (RS C) w x)) (Z ⟨HR.keep ((Fr.refl wf).drew),HW.drew⟩) ?_;intro x HX;go_loopw [2] (fun u wr=>u= .int .i64 100∧wr=x) (fun _ _=>0)
   case atStart=>exact⟨rfl,rfl⟩
   case round=>
    obtain⟨rfl,rfl⟩:=hrel;obtain⟨b1,b2,b3,c0,c1,c2,c3,c4,f2,f3,f4,-,-⟩:=HX.1.facts;go_wp2_with fail;obtain⟨cv,hp,hcv⟩:=HX.1.pblk;obtain⟨K,hK,hK2⟩:=HX.1.kblk;have HP:=Z hp;have HC:=Z hcv;have HK:=Z hK;have HK2:=Z hK2;clear hp hcv hK hK2;have he1:(0:Int)≤(n0:Int):=by omega
    have he2:(n0:Int)≤4096:=by omega
    have hne4:¬ (4096=n0):=by omega
    have HF:=Z HX;go_cut [3,4] (fun u v wx=>∃n1,u= .int .i64 n1∧Hid (xV C n0 (4096-n0) tx K wr.drew n1 v wx))
    case first=>
     go_region_with (go_at_call 233;refine(mH C _ _ _ tx cv K _ (Keep.blk ((Fr.refl wr).drew) HP) (HC.keep (Fr.refl wr).drew) ⟨HK.1,HK.2⟩ (HX.1.glob.fr (Fr.refl wr).drew) HX.1.sz (by omega) (by omega)).mono ?_;rintro e' w2 ⟨n1,v1,rfl,hR⟩)
     all_goals
      go_wp2_with fail;go_meet;exact⟨n1,rfl,hR⟩
    case rest=>
     obtain⟨n1,rfl,hR⟩:=hcut;clear b1 b2 b3 c0 c1 c2 c3 c4 f2 f3 f4;rcases hR.out with⟨h0,rfl,hev,hk⟩|⟨m,cv',tx',h1,h2,h3,rfl,rfl,h4,h5,h6,h7,h8⟩
     ·have RW:=Z ((HX.1.keep ((Fr.refl wr).drew)).keep hk);have HFF:=Z ((HX.2.drew).keep hk);obtain⟨b,hb⟩:∃b,u4= .iface 172 (.pointer (some b)):=by
       rcases hev with⟨-,b,-,-,h⟩|⟨-,h⟩
       ·exact⟨_,h⟩
       ·exact⟨_,h⟩
      have HEV:=Z hev;subst hb;clear hk hev hR;obtain⟨b1,b2,b3,c0,c1,c2,c3,c4,f2,f3,f4,-,-⟩:=RW.facts;go_wp2_with fail;refine qh (results_none rfl _ _ _) rfl ?_;obtain⟨lb,ls,hbb⟩:=RW.bblk;have hf2:∀u v:Value,Fr (· =C.bb) wc ((wc.setCell ⟨C.bb,3,none⟩ u).setCell ⟨C.bb,4,none⟩ v):=fun u v=>Fr.setIn (S:=(· =C.bb)) (p:=⟨C.bb,4,none⟩) (Fr.setIn (S:=(· =C.bb)) (p:=⟨C.bb,3,none⟩) (Fr.refl wc) u rfl) v rfl
      refine⟨rfl,(HFF.setIn _ (.inl rfl)).setIn _ (.inl rfl),n0,buf,tx,.iface 172 (.pointer (some b)),?_,rfl,.inl (by simp)⟩;refine RW.store ⟨lb,ls,?_⟩ (hf2 _ _) RW.kblk RW.len RW.fit (.inr ⟨h0,HEV⟩);rw[ag (ag hbb _ _)];simp
     ·have h4':Fr (RS C) wr.drew wc:=h4.mono fun k _ hk=>by rcases hk with h|h;exact .inr (.inl h);exact .inr (.inr h)
      have hnb:¬ (C.bb=C.kb∨C.bb=C.pb):=by rintro(h|h);exact hn1 h;exact hn2 h
      obtain⟨lb,ls,hbb⟩:=HX.1.bblk;have hbc:=h4.blk hnb (Keep.blk ((Fr.refl wr).drew) hbb);have b1:=af hbc;have c3:wc.cell? ⟨C.bb,3,none⟩=some (.int .i64 n0):=ab hbc 3;have f3:wc.frozen? ⟨C.bb,3,none⟩=false:=ae hbc 3;have h1z:(0:Int) < (m:Int):=by omega
      have H5:=Z h5;have H6:=Z h6;have H7:=Z h7;have H8:=Z h8;have HBC:=Z hbc;have HFF:=Z ((HX.2.drew).trans h4');have h4r:=h4';clear h4 h4' h5 h6 h7 h8 hbc hbb hnb hR;go_wp2_with fail;refine qh (results_none rfl _ _ _) rfl ?_;have hlen:n0=0+buf.length:=HX.1.len;have hlt:=aR tx;have hlm:(az (tx.toList.take m)).length=m:=by unfold az;rw[List.length_map,List.length_take];omega
      have hf:Fr (· =C.bb) wc (wc.setCell ⟨C.bb,3,none⟩ (.int .i64 ((n0:Int)+(m:Int)))):=(Fr.refl wc).setIn _ rfl;refine⟨rfl,HFF.setIn _ (.inl rfl),n0+m,buf++tx.toList.take m,tx',.nilIface,?_,?_,.inr ?_⟩
      ·refine⟨⟨lb,ls,?_⟩,⟨_,⟨hf.blk (fun h=>hn1 h.symm) H8,?_,?_⟩,?_⟩,⟨cv',hf.blk (fun h=>hn2 h.symm) H5,H6.keep (hf.mono fun _ _ h=> .inl h)⟩,?_,?_,?_,.inl rfl,(HX.1.glob.fr (Fr.refl wr).drew).fr ((h4r).trans (hf.mono fun _ _ h=> .inl h))⟩
       ·rw[ag HBC.out];simp
       ·have:=HK.2.1;simp[hlm];omega
       ·intro v hv;simp only[List.mem_append] at hv;rcases hv with hv|hv|hv
        ·exact HK.2.2 v (List.mem_of_mem_take hv)
        ·unfold az at hv;simp only[List.mem_map] at hv;obtain⟨b,-,rfl⟩:=hv;exact⟨b,rfl⟩
        ·exact HK.2.2 v (List.mem_of_mem_drop hv)
       ·have hk2:=HK2.out;have hk3:=HK.2.1;rw[List.drop_zero] at hk2 ⊢;rw[show n0=buf.length from by omega,hk2,←qs,List.take_append_of_le_length (by simp[az]),List.take_of_length_le (by simp[az])];simp[az]
       ·simp[List.length_take];omega
       ·omega
       ·have:=HX.1.sz;have h9:=congrArg List.length H7.out;rw[aR,List.length_drop,aR] at h9;omega
      ·rw[H7.out,qs,List.take_append_drop]
      ·have h9:=congrArg List.length H7.out;rw[aR,List.length_drop,aR] at h9;omega
end Go.Proofs.YtnclklfhjbkjhaaGreatDoor
