/- Part of the proof: K14 K15 N5. -/
import Derived.Test.YtnclklfhjbkjhaaGreatDoorKb
import Derived.Test.YtnclklfhjbkjhaaGreatDoorKc
import Derived.LaidEql
set_option maxRecDepth 1000000
set_option maxHeartbeats 40000000
set_option linter.unusedSimpArgs false
namespace Go.Proofs.YtnclklfhjbkjhaaGreatDoor
open Tryz
open Go.RowKit Go.Lib
def xQ(t:Option (List UInt8))(v:Value):Prop:=match t with
 |none=>v= .nilIface
 |some l=>∃s:ByteArray,v= .iface 9 (.string s)∧s.toList=l
def vD(C:RC)(lx rr:Nat)(A:Nat→Prop)(T:Nat)(R:List Int)(p:Ps)(w:World)(e:Ending)(w':World):Prop:=
 Fr (LxF C lx A) w w'∧match lexF R p with
  |none=>(∃p' pv',LxSt C lx rr A false T 0 [] p' pv' w')∧((C.fin=false∧e= .returned (.tuple #[.int .i64 0,.nilIface,.nilIface]))∨(C.fin=true∧∃b,e= .returned (.tuple #[.int .i64 0,.nilIface,.iface 172 (.pointer (some b))])))
  |some x=>LxSt C lx rr A false T 0 x.rest x.ps x.pv w'∧∃v,xQ x.t v∧e= .returned (.tuple #[.int .i64 x.k,v,.nilIface])
theorem ji(p:Ps):lexF [] p=none:=by rw[lexF.eq_def]
theorem aP(c:Int)(r:List Int)(p:Ps):lexF (c::r) p=if iA c=true then lexF r (aC p c)
  else if c=46 then some (jW (aC p c) p r)
  else if bB c=true then some ⟨65539,some (aO (fP r [c] (aC p c)).out),p,(fP r [c] (aC p c)).ps,(fP r [c] (aC p c)).rest⟩
  else if aV c=true then some ⟨65538,some (aO (bV r [c] false (aC p c)).out),p,(bV r [c] false (aC p c)).ps,(bV r [c] false (aC p c)).rest⟩
  else if c=39∨c=34 then some ⟨65537,some (strF c r [] (aC p c)).out,p,(strF c r [] (aC p c)).ps,(strF c r [] (aC p c)).rest⟩
  else if c=47 then
   match r with
   | []=>some ⟨47,none,p,aC p c,[]⟩
   |d::r'=>
    if d=47 then lexF (bn r' (aC (aC p c) d)).rest (bn r' (aC (aC p c) d)).ps
    else if d=42 then lexF (aM r' (aC (aC p c) d)).rest (aM r' (aC (aC p c) d)).ps
    else some ⟨47,none,p,aC p c,d::r'⟩
  else some ⟨c,none,p,aC p c,r⟩:=by
 rw[lexF.eq_def];rfl
theorem LxSt.eof{C:RC}{lx rr T d:Nat}{A:Nat→Prop}{ok:Bool}{R:List Int}{p pv:Ps}{w:World}(h:LxSt C lx rr A ok T d R p pv w):w.cell? ⟨0,0,none⟩=some (.iface 172 (.pointer (some ⟨C.eb,C.eo,none⟩))):=by
 obtain⟨U,Bs,uv,ev,h1,h2,h3,⟨r,e,buf,tx,ev2,hb,-⟩,h5⟩:=h.ru.st;exact hb.glob.eof
theorem LxSt.ebl{C:RC}{lx rr T d:Nat}{A:Nat→Prop}{ok:Bool}{R:List Int}{p pv:Ps}{w:World}(h:LxSt C lx rr A ok T d R p pv w):∃cs T,w.heap[C.eb]? =some (.cells cs T (0,0)):=by
 obtain⟨U,Bs,uv,ev,h1,h2,h3,⟨r,e,buf,tx,ev2,hb,-⟩,h5⟩:=h.ru.st;exact hb.glob.ebl
theorem vG:∃ms,prog.underlying 63=some (.interface ms):=⟨_,underlying63⟩
theorem rh:prog.underlying 172=some (.pointer 174):=by kernel_rfl
theorem xd:(prog.info? 172).map (·.comparable)=some true:=by kernel_rfl
theorem xc:(prog.info? 174).map (·.size)=some 1:=by kernel_rfl
theorem xr{C:RC}{b:Addr}{w:World}(he:ErrV C (.iface 172 (.pointer (some b))) w)(hb:∃cs T,w.heap[C.eb]? =some (.cells cs T (0,0))):
  (binOp .eql 63 (.iface 172 (.pointer (some b))) (.iface 172 (.pointer (some ⟨C.eb,C.eo,none⟩)))).run prog w= .ok (.bool (!C.fin)) w:=by
 obtain⟨ms,h63⟩:=vG;obtain⟨i,hi,hc⟩:∃i,prog.info? 172=some i∧i.comparable=true:=by
  have h:=xd;cases hi:prog.info? 172 with
  |none=>rw[hi] at h;cases h
  |some i=>rw[hi] at h;exact⟨i,rfl,by simpa using h⟩
 obtain⟨j,hj,hs⟩:∃j,prog.info? 174=some j∧j.size=1:=by
  have h:=xc;cases hi:prog.info? 174 with
  |none=>rw[hi] at h;cases h
  |some i=>rw[hi] at h;exact⟨i,rfl,by simpa using h⟩
 rcases he with⟨hf,b',hne,⟨cs,hcs⟩,hv⟩|⟨hf,hv⟩
 ·have eb:b=⟨b',0,none⟩:=by simpa using hv
  subst eb;obtain⟨cs2,T2,hcs2⟩:=hb;rw[hf];exact run_eql_iface_ptr_other w h63 rh hi hc hj (by rw[hs];decide) (by intro e;exact hne (congrArg Addr.block e)) hcs hcs2
 ·have eb:b=⟨C.eb,C.eo,none⟩:=by
   unfold xu at hv;simpa using hv
  subst eb;rw[hf];exact run_eql_iface_ptr_same w _ h63 rh hi hc hj
theorem wT(b:Addr)(w:World):(binOp .eql 63 .nilIface (.iface 172 (.pointer (some b)))).run prog w= .ok (.bool false) w:=by
 obtain⟨ms,h63⟩:=vG;exact run_eql_iface_nil_left w _ _ h63
theorem LxSt.mark{C:RC}{lx rr T d:Nat}{A:Nat→Prop}{ok:Bool}{R:List Int}{p pv:Ps}{w w':World}(h:LxSt C lx rr A ok T d R p pv w)(hb:d_ lx rr p p w')(f:Fr (· =lx) w w'):LxSt C lx rr A ok T d R p p w'∧Fr (LxF C lx A) w w':=by
 refine⟨⟨h.la,h.ru.fr f (fun k e=>?_) (sA h.lb),hb,h.ps,h.hT⟩,f.mono fun _ _ e=> .inr e⟩;have e':k=lx:=e;rw[e'];exact h.la
theorem AccSt.new1{C:RC}{lx rr T:Nat}{A:Nat→Prop}{ok:Bool}{R:List Int}{p pv:Ps}{w:World}(c:Int)(h:LxSt C lx rr A ok T 0 R p pv w)(hc:0≤c∧c<128)(hl:R.length+1≤T):
  AccSt C lx rr A ok T 0 R p pv (.slice (some ⟨w.heap.size,0,none⟩) 1 1) [c] (w.alloc (.cells #[.int .i32 c] 21)):=by
 have hbb:=h.ru.bbl;have hsz:(w.alloc (.cells #[.int .i32 c] 21)).heap.size=w.heap.size+1:=by simp
 refine⟨h.la,h.more ((Fr.refl w).alloc _) (fun k e=>?_) (.inl h.la),⟨by simp,.inr ⟨w.heap.size,1,#[.int .i32 c],rfl,by omega,ql w _,by simp,by unfold maxLen;decide,rfl,rfl⟩⟩,fun g hg a=>?_,fun x hx=>by rw[List.mem_singleton.1 hx];exact hc,by simp;omega⟩
 ·rcases e with e|e
  ·exact .inl e
  ·simp only[Value.ownBlock,Option.some.injEq] at e;exact .inr ⟨by omega,by omega⟩
 ·simp only[Value.ownBlock,Option.some.injEq] at hg;have:=h.lt g a;omega
theorem AccSt.new2{C:RC}{lx rr T:Nat}{A:Nat→Prop}{ok:Bool}{R:List Int}{p pv:Ps}{w:World}(c d:Int)(h:LxSt C lx rr A ok T 0 R p pv w)(hc:0≤c∧c<128)(hd:0≤d∧d<128)(hl:R.length+2≤T):
  AccSt C lx rr A ok T 0 R p pv (.slice (some ⟨w.heap.size,0,none⟩) 2 2) [c,d] (w.alloc (.cells #[.int .i32 c,.int .i32 d] 21)):=by
 have hbb:=h.ru.bbl;have hsz:(w.alloc (.cells #[.int .i32 c,.int .i32 d] 21)).heap.size=w.heap.size+1:=by simp
 refine⟨h.la,h.more ((Fr.refl w).alloc _) (fun k e=>?_) (.inl h.la),⟨by simp,.inr ⟨w.heap.size,2,#[.int .i32 c,.int .i32 d],rfl,by omega,ql w _,by simp,by unfold maxLen;decide,rfl,rfl⟩⟩,fun g hg a=>?_,fun x hx=>?_,by simp;omega⟩
 ·rcases e with e|e
  ·exact .inl e
  ·simp only[Value.ownBlock,Option.some.injEq] at e;exact .inr ⟨by omega,by omega⟩
 ·simp only[Value.ownBlock,Option.some.injEq] at hg;have:=h.lt g a;omega
 ·simp only[List.mem_cons,List.not_mem_nil,or_false] at hx;rcases hx with rfl|rfl
  ·exact hc
  ·exact hd
theorem ti{p pv:Ps}{d:Int}{r:List Int}(h:aV d=true):jW p pv (d::r)=⟨65538,some (aO (bV r [46,d] false (aC p d)).out),pv,(bV r [46,d] false (aC p d)).ps,(bV r [46,d] false (aC p d)).rest⟩:=by
 show(if aV d=true then _ else _)=_;rw[if_pos h]
theorem jx{p pv:Ps}{d:Int}{r:List Int}(h:aV d=false):jW p pv (d::r)=⟨46,none,pv,p,d::r⟩:=by
 show(if aV d=true then _ else _)=_;rw[if_neg (by rw[h];decide)]
theorem pq:∀ {R:List Int} {p:Ps},Cp R→Cp (bn R p).rest
 | [],_,_=>fun x hx=>by simp[bn] at hx
 |c::r,p,h=>by
  unfold bn;split
  ·exact h.tail
  ·exact pq h.tail
theorem nI:∀ {R:List Int} {p:Ps},Cp R→Cp (aM R p).rest
 | [],_,_=>fun x hx=>by simp[aM] at hx
 | [c],_,_=>fun x hx=>by simp[aM] at hx
 |c::d::r,p,h=>by
  unfold aM;split
  ·exact h.tail.tail
  ·exact nI h.tail
structure LX1(C:RC)(lx rr:Nat)(A:Nat→Prop)(T:Nat)(R:List Int)(p:Ps)(w:World)(R':List Int)(p' pv':Ps)(ok':Bool)(wr:World):Prop where
 eq:lexF R p=lexF R' p'
 fr:Fr (LxF C lx A) w wr
 st:LxSt C lx rr A ok' T 0 R' p' pv' wr
 cp:Cp R'
theorem aZ{C:RC}{lx rr T:Nat}{A:Nat→Prop}{R:List Int}{p:Ps}{w w':World}{e:Ending}(x:Lx)(v:Value)(hx:lexF R p=some x)(hf:Fr (LxF C lx A) w w')(hs:LxSt C lx rr A false T 0 x.rest x.ps x.pv w')(hv:xQ x.t v)(he:e= .returned (.tuple #[.int .i64 x.k,v,.nilIface])):vD C lx rr A T R p w e w':=by
 refine⟨hf,?_⟩;rw[hx];exact⟨hs,v,hv,he⟩
theorem m7{C:RC}{lx rr T:Nat}{A:Nat→Prop}{R:List Int}{p p' pv':Ps}{w w':World}{e:Ending}(hx:lexF R p=none)(hf:Fr (LxF C lx A) w w')(hs:LxSt C lx rr A false T 0 [] p' pv' w')(he:(C.fin=false∧e= .returned (.tuple #[.int .i64 0,.nilIface,.nilIface]))∨(C.fin=true∧∃b,e= .returned (.tuple #[.int .i64 0,.nilIface,.iface 172 (.pointer (some b))]))):vD C lx rr A T R p w e w':=by
 refine⟨hf,?_⟩;rw[hx];exact⟨⟨p',pv',hs⟩,he⟩
theorem sE(C:RC)(lx rr T:Nat)(A:Nat→Prop)(ok:Bool)(R:List Int)(p pv:Ps)(w:World)(h:LxSt C lx rr A ok T 0 R p pv w)(hcp:Cp R)
  (hstr:∀ (q:Int) (R':List Int) (p' pv':Ps) (ok':Bool) (w':World),(q=39∨q=34)→Fr (LxF C lx A) w w'→LxSt C lx rr A ok' T 0 R' p' pv' w'→Cp R'→Calls prog 68 #[.pointer (some ⟨lx,0,none⟩),.int .i32 q] w' (tG C lx rr A T (strF q R' [] p') pv' w')):
  Calls prog 33 #[.pointer (some ⟨lx,0,none⟩)] w (vD C lx rr A T R p w):=by
 have HS:=Z h;have HCP:=Z hcp;have HSTR:=Z hstr;clear h hcp hstr;go_enter func33,ntmps33;go_wp2_with fail;go_loopg [] R.length (fun k wr=>∃ (ok':Bool) (R':List Int) (p' pv':Ps),k=R'.length∧Hid (LX1 C lx rr A T R p w R' p' pv' ok' wr))
 case atStart=>exact⟨ok,R,p,pv,rfl,Z ⟨rfl,Fr.refl _,HS,HCP⟩⟩
 case round=>
  obtain⟨ok',R',p',pv',rfl,HL⟩:=hrel;have c0:=HL.st.cell;go_wp2_with first
   |(go_at_call 62;refine(eS HL.st).mono ?_;rintro e w2 ⟨f2,(⟨hR,h2,b,hev,rfl⟩|⟨c,R2,hR,h2,rfl⟩)⟩<;>refine Hid.out ?_)
  ·refine Z ?_;have HR:=Z hR;have H2:=Z h2;have HF2:=Z (HL.fr.trans f2);have g0:=h2.eof;have heq:=xr hev h2.ebl;have hx:lexF R p=none:=by rw[HL.eq,hR,ji]
   have HX:=Z hx;clear hR h2 f2 hx hev;cases hfin:C.fin
   ·rw[hfin] at heq;go_wp2_with fail;exact qh (results_tmp3 results33 _ _ _) rfl (m7 HX HF2 H2 (.inl ⟨hfin,rfl⟩))
   ·rw[hfin] at heq;go_wp2_with fail;exact qh (results_tmp3 results33 _ _ _) rfl (m7 HX HF2 H2 (.inr ⟨hfin,_,rfl⟩))
  ·refine Z ?_;have HR:=Z hR;have H2:=Z h2;have HF2:=Z (HL.fr.trans f2);have g0:=h2.eof;have hnq:=fun w=>wT ⟨C.eb,C.eo,none⟩ w
   have hcp2:=HL.cp;rw[hR] at hcp2;have HCP2:=Z hcp2;have hle:R'.length≤T:=by
    obtain⟨n,-,hn⟩:=HL.st.ps;omega
   rw[hR,List.length_cons] at hle;have HLE:=Z hle;clear hR h2 f2 hcp2 hle;obtain⟨b,hb⟩:∃b,b=iA c:=⟨_,rfl⟩;have HB:=Z hb;clear hb;go_wp2_with first
    |(go_at_call 63;refine(nf c _).mono ?_;rintro e w3 ⟨he,k3⟩;rw[←HB.out] at he;subst he;have H3:=Z (H2.keep k3);have HF3:=Z (HF2.keep k3);have c3:=(H2.keep k3).cell;refine Hid.out ?_)
   refine Z ?_;cases b
   case true=>
    go_wp2_with (go_at_call 64;refine(eD c H3).mono ?_;rintro e w4 ⟨rfl,h4,f4⟩;have H4:=Z h4;have HF4:=Z (HF3.trans f4);clear h4 f4);go_roundg R2.length
    case measure=>rw[HR.out];simp
    case rel=>exact⟨true,R2,aC p' c,pv',rfl,Z ⟨by rw[HL.eq,HR.out,aP,if_pos HB.symm],HF4.out,H4.out,HCP2.tail⟩⟩
   case false=>
    have lb:=H3.lb;have d1:w3.cell? ⟨lx,1,none⟩=some (.int .i64 p'.ln):=ab lb 1;have d2:w3.cell? ⟨lx,2,none⟩=some (.int .i64 p'.cl):=ab lb 2;have d3:w3.cell? ⟨lx,3,none⟩=some (.int .i64 pv'.ln):=ab lb 3;have d4:w3.cell? ⟨lx,4,none⟩=some (.int .i64 pv'.cl):=ab lb 4;have e3:=ae lb 3;have e4:=ae lb 4;have hmk:d_ lx rr p' p' ((w3.drew.setCell ⟨lx,3,none⟩ (.int .i64 p'.ln)).setCell ⟨lx,4,none⟩ (.int .i64 p'.cl)):=by
     unfold d_;rw[ag (ag (show w3.drew.heap[lx]? =_ from lb) _ _)];rfl
    have hfm:Fr (· =lx) w3 ((w3.drew.setCell ⟨lx,3,none⟩ (.int .i64 p'.ln)).setCell ⟨lx,4,none⟩ (.int .i64 p'.cl)):=(Fr.setIn (S:=(· =lx)) (Fr.refl w3).drew _ (show lx=lx from rfl)).setIn _ (show lx=lx from rfl);have HMK:=Z (H3.mark hmk hfm);clear lb hmk hfm;go_wp2_with fail;go_region;clear d1 d2 d3 d4 e3 e4 c3;go_wp2_with (go_at_call 64;refine(eD c HMK.1).mono ?_;rintro e w5 ⟨rfl,h5,f5⟩;have H5:=Z h5;have HF5:=Z ((HF3.trans HMK.2).trans f5);have c5:=h5.cell;clear h5 f5;refine Hid.out ?_);refine Z ?_;have hc:=HCP2.head;by_cases h46:c=46
    ·subst h46;go_wp2_with first
      |(go_at_call 62;refine(eS H5).mono ?_;rintro e w6 ⟨f6,(⟨hR6,h6,b,hev,rfl⟩|⟨d,R6,hR6,h6,rfl⟩)⟩<;>refine Hid.out ?_)
     ·refine Z ?_;have HR6:=Z hR6;clear hR6;go_wp2_with fail;exact qh (results_tmp3 results33 _ _ _) rfl (aZ (jW (aC p' 46) p' []) _ (by rw[HL.eq,HR.out,aP,if_neg (by rw[←HB.out];decide),if_pos rfl,HR6.out]) (HF5.trans f6) h6 rfl rfl)
     ·refine Z ?_;have HR6:=Z hR6;have H6:=Z h6;have HF6:=Z (HF5.trans f6);have c6:=h6.cell;have hle6:=HLE.out;rw[hR6,List.length_cons] at hle6;have HLE6:=Z hle6;clear hR6 h6 f6 hle6;by_cases hd:48≤d∧d≤57
      ·obtain⟨g1,g2⟩:=hd;have hD:aV d=true:=by simp[aV,g1,g2]
       have HD:=Z hD;clear hD;go_wp2_with first
        |(go_at_call 64;refine(eD d H6).mono ?_;rintro e w7 ⟨rfl,h7,f7⟩;have H7:=Z h7;have HF7:=Z (HF6.trans f7);clear h7 f7)
        |(go_at_call 65;refine(hZ C lx rr T A true R6 (aC (aC p' 46) d) p' _ [46,d] _ (AccSt.new2 46 d H7.out (by decide) (by omega) (by have:=HLE6.out;omega)) (by simp)).mono ?_;rintro e w8 ⟨t,rfl,ht,h8,f8⟩)
       exact qh (results_tmp3 results33 _ _ _) rfl (aZ ⟨65538,some (aO (bV R6 [46,d] false (aC (aC p' 46) d)).out),p',(bV R6 [46,d] false (aC (aC p' 46) d)).ps,(bV R6 [46,d] false (aC (aC p' 46) d)).rest⟩ _ (by rw[HL.eq,HR.out,aP,if_neg (by rw[←HB.out];decide),if_pos rfl,HR6.out,ti HD.out]) ((HF7.trans ((Fr.refl w7).alloc _)).trans f8) h8 ⟨t,rfl,ht⟩ rfl)
      ·have hD:aV d=false:=by
        cases h:aV d
        ·rfl
        ·simp only[aV,Bool.and_eq_true,decide_eq_true_eq] at h;exact absurd h hd
       have HD:=Z hD;clear hD;have hsplit:d<48∨(48≤d∧57<d):=by omega
       clear hd;rcases hsplit with g1|⟨g0,g1⟩
       ·have g2:¬d≥48:=by omega
        go_wp2_with (go_at_call 66;refine(dV d H6).mono ?_;rintro e w7 ⟨rfl,h7,f7⟩);exact qh (results_tmp3 results33 _ _ _) rfl (aZ ⟨46,none,p',aC p' 46,d::R6⟩ _ (by rw[HL.eq,HR.out,aP,if_neg (by rw[←HB.out];decide),if_pos rfl,HR6.out,jx HD.out]) (HF6.trans f7) h7.any rfl rfl)
       ·have g2:¬d≤57:=by omega
        go_wp2_with (go_at_call 66;refine(dV d H6).mono ?_;rintro e w7 ⟨rfl,h7,f7⟩);exact qh (results_tmp3 results33 _ _ _) rfl (aZ ⟨46,none,p',aC p' 46,d::R6⟩ _ (by rw[HL.eq,HR.out,aP,if_neg (by rw[←HB.out];decide),if_pos rfl,HR6.out,jx HD.out]) (HF6.trans f7) h7.any rfl rfl)
    have q46:(c==46)=false:=beq_eq_false_iff_ne.2 h46;have H46:=Z h46;clear h46;by_cases hL:bB c=true
    ·have HLc:=Z hL;have hk:c=95∨(97≤c∧c≤122)∨(65≤c∧c≤90):=by
      simp only[bB,Bool.or_eq_true,Bool.and_eq_true,decide_eq_true_eq,beq_iff_eq] at hL;omega
     clear hL;rcases hk with hk|⟨k1,k2⟩|⟨k1,k2⟩
     ·subst hk;go_wp2_with (go_at_call 67;refine(dH C lx rr T A true R2 (aC p' 95) p' _ [95] _ (AccSt.new1 95 H5.out (by omega) (by have:=HLE.out;omega)) (by simp)).mono ?_;rintro e w6 ⟨t,rfl,ht,h6,f6⟩);exact qh (results_tmp3 results33 _ _ _) rfl (aZ ⟨65539,some (aO (fP R2 [95] (aC p' 95)).out),p',(fP R2 [95] (aC p' 95)).ps,(fP R2 [95] (aC p' 95)).rest⟩ _ (by rw[HL.eq,HR.out,aP,if_neg (by rw[←HB.out];decide),if_neg H46.out,if_pos HLc.out]) ((HF5.trans ((Fr.refl w5).alloc _)).trans f6) h6 ⟨t,rfl,ht⟩ rfl)
     ·have q95:(c==95)=false:=bf (by omega);go_wp2_with (go_at_call 67;refine(dH C lx rr T A true R2 (aC p' c) p' _ [c] _ (AccSt.new1 c H5.out (by omega) (by have:=HLE.out;omega)) (by simp)).mono ?_;rintro e w6 ⟨t,rfl,ht,h6,f6⟩);exact qh (results_tmp3 results33 _ _ _) rfl (aZ ⟨65539,some (aO (fP R2 [c] (aC p' c)).out),p',(fP R2 [c] (aC p' c)).ps,(fP R2 [c] (aC p' c)).rest⟩ _ (by rw[HL.eq,HR.out,aP,if_neg (by rw[←HB.out];decide),if_neg H46.out,if_pos HLc.out]) ((HF5.trans ((Fr.refl w5).alloc _)).trans f6) h6 ⟨t,rfl,ht⟩ rfl)
     ·have q95:(c==95)=false:=bf (by omega);have k3:¬c≥97:=by omega
      go_wp2_with (go_at_call 67;refine(dH C lx rr T A true R2 (aC p' c) p' _ [c] _ (AccSt.new1 c H5.out (by omega) (by have:=HLE.out;omega)) (by simp)).mono ?_;rintro e w6 ⟨t,rfl,ht,h6,f6⟩);exact qh (results_tmp3 results33 _ _ _) rfl (aZ ⟨65539,some (aO (fP R2 [c] (aC p' c)).out),p',(fP R2 [c] (aC p' c)).ps,(fP R2 [c] (aC p' c)).rest⟩ _ (by rw[HL.eq,HR.out,aP,if_neg (by rw[←HB.out];decide),if_neg H46.out,if_pos HLc.out]) ((HF5.trans ((Fr.refl w5).alloc _)).trans f6) h6 ⟨t,rfl,ht⟩ rfl)
    have hLf:bB c=false:=by
     cases h:bB c
     ·rfl
     ·exact absurd h hL
    have HLc:=Z hLf;have hkf:c<65∨(90<c∧c<95)∨c=96∨122<c:=by
     have h':¬bB c=true:=hL;simp only[bB,Bool.or_eq_true,Bool.and_eq_true,decide_eq_true_eq,beq_iff_eq] at h';omega
    clear hL hLf;have q95:(c==95)=false:=bf (by omega);by_cases hD:48≤c∧c≤57
    ·obtain⟨g1,g2⟩:=hD;have hD:aV c=true:=by simp[aV,g1,g2]
     have HD:=Z hD;have k3:¬c≥97:=by omega
     have k4:¬c≥65:=by omega
     clear hD hkf;go_wp2_with (go_at_call 65;refine(hZ C lx rr T A true R2 (aC p' c) p' _ [c] _ (AccSt.new1 c H5.out (by omega) (by have:=HLE.out;omega)) (by simp)).mono ?_;rintro e w6 ⟨t,rfl,ht,h6,f6⟩);exact qh (results_tmp3 results33 _ _ _) rfl (aZ ⟨65538,some (aO (bV R2 [c] false (aC p' c)).out),p',(bV R2 [c] false (aC p' c)).ps,(bV R2 [c] false (aC p' c)).rest⟩ _ (by rw[HL.eq,HR.out,aP,if_neg (by rw[←HB.out];decide),if_neg H46.out,if_neg (by rw[HLc.out];decide),if_pos HD.out]) ((HF5.trans ((Fr.refl w5).alloc _)).trans f6) h6 ⟨t,rfl,ht⟩ rfl)
    have hDf:aV c=false:=by
     cases h:aV c
     ·rfl
     ·simp only[aV,Bool.and_eq_true,decide_eq_true_eq] at h;exact absurd h hD
    have HD:=Z hDf;clear hDf;by_cases hQ:c=39∨c=34
    ·have HQ:=Z hQ;have k3:¬c≥97:=by omega
     have k4:¬c≥65:=by omega
     have k5:¬c≥48:=by omega
     clear hkf hD;rcases hQ with hq|hq
     ·subst hq;go_wp2_with (go_at_call 68;refine(HSTR 39 R2 (aC p' 39) p' true _ (.inl rfl) HF5 H5 HCP2.tail).mono ?_;rintro e w6 ⟨t,rfl,ht,h6,f6⟩);exact qh (results_tmp3 results33 _ _ _) rfl (aZ ⟨65537,some (strF 39 R2 [] (aC p' 39)).out,p',(strF 39 R2 [] (aC p' 39)).ps,(strF 39 R2 [] (aC p' 39)).rest⟩ _ (by rw[HL.eq,HR.out,aP,if_neg (by rw[←HB.out];decide),if_neg H46.out,if_neg (by rw[HLc.out];decide),if_neg (by rw[HD.out];decide),if_pos (by decide)]) (HF5.trans f6) h6 ⟨t,rfl,ht⟩ rfl)
     ·subst hq;go_wp2_with (go_at_call 68;refine(HSTR 34 R2 (aC p' 34) p' true _ (.inr rfl) HF5 H5 HCP2.tail).mono ?_;rintro e w6 ⟨t,rfl,ht,h6,f6⟩);exact qh (results_tmp3 results33 _ _ _) rfl (aZ ⟨65537,some (strF 34 R2 [] (aC p' 34)).out,p',(strF 34 R2 [] (aC p' 34)).ps,(strF 34 R2 [] (aC p' 34)).rest⟩ _ (by rw[HL.eq,HR.out,aP,if_neg (by rw[←HB.out];decide),if_neg H46.out,if_neg (by rw[HLc.out];decide),if_neg (by rw[HD.out];decide),if_pos (by decide)]) (HF5.trans f6) h6 ⟨t,rfl,ht⟩ rfl)
    have HQ:=Z hQ;have q39:(c==39)=false:=bf (by omega);have q34:(c==34)=false:=bf (by omega);by_cases h47:c=47
    ·subst h47;clear q46 q95 q39 q34 hkf hD hQ;go_wp2_with first
      |(go_at_call 62;refine(eS H5).mono ?_;rintro e w6 ⟨f6,(⟨hR6,h6,b,hev,rfl⟩|⟨d,R6,hR6,h6,rfl⟩)⟩<;>refine Hid.out ?_)
     ·refine Z ?_;have HR6:=Z hR6;clear hR6;go_wp2_with fail;exact qh (results_tmp3 results33 _ _ _) rfl (aZ ⟨47,none,p',aC p' 47,[]⟩ _ (by rw[HL.eq,HR.out,aP,if_neg (by decide),if_neg (by decide),if_neg (by decide),if_neg (by decide),if_neg (by decide),if_pos rfl,HR6.out]) (HF5.trans f6) h6 rfl rfl)
     ·refine Z ?_;have HR6:=Z hR6;have H6:=Z h6;have HF6:=Z (HF5.trans f6);have c6:=h6.cell;have hcp6:=HCP2.tail;rw[hR6] at hcp6;have HCP6:=Z hcp6.tail;clear hR6 h6 f6 hcp6;by_cases hd7:d=47
      ·subst hd7;go_wp2_with first
        |(go_at_call 64;refine(eD 47 H6).mono ?_;rintro e w7 ⟨rfl,h7,f7⟩;have H7:=Z h7;have HF7:=Z (HF6.trans f7);clear h7 f7)
        |(go_at_call 69;refine(lL C lx rr T A true R6 _ p' _ H7).mono ?_;rintro e w8 ⟨rfl,f8,h8⟩;have H8:=Z h8;have HF8:=Z (HF7.trans f8);clear h8 f8)
       go_roundg (bn R6 (aC (aC p' 47) 47)).rest.length
       case measure=>
        have:=dX R6 (aC (aC p' 47) 47);rw[HR.out,HR6.out];simp;omega
       case rel=>exact⟨false,_,_,p',rfl,Z ⟨by rw[HL.eq,HR.out,aP,if_neg (by decide),if_neg (by decide),if_neg (by decide),if_neg (by decide),if_neg (by decide),if_pos rfl,HR6.out];rfl,HF8.out,H8.out,pq HCP6.out⟩⟩
      ·have q47:(d==47)=false:=beq_eq_false_iff_ne.2 hd7;have HD7:=Z hd7;clear hd7;by_cases hd2:d=42
       ·subst hd2;go_wp2_with first
         |(go_at_call 64;refine(eD 42 H6).mono ?_;rintro e w7 ⟨rfl,h7,f7⟩;have H7:=Z h7;have HF7:=Z (HF6.trans f7);clear h7 f7)
         |(go_at_call 70;refine(jZ C lx rr T A true R6 _ p' _ H7).mono ?_;rintro e w8 ⟨rfl,f8,h8⟩;have H8:=Z h8;have HF8:=Z (HF7.trans f8);clear h8 f8)
        go_roundg (aM R6 (aC (aC p' 47) 42)).rest.length
        case measure=>
         have:=dy R6 (aC (aC p' 47) 42);rw[HR.out,HR6.out];simp;omega
        case rel=>exact⟨false,_,_,p',rfl,Z ⟨by rw[HL.eq,HR.out,aP,if_neg (by decide),if_neg (by decide),if_neg (by decide),if_neg (by decide),if_neg (by decide),if_pos rfl,HR6.out];rfl,HF8.out,H8.out,nI HCP6.out⟩⟩
       ·have q42:(d==42)=false:=beq_eq_false_iff_ne.2 hd2;have HD2:=Z hd2;clear hd2;go_wp2_with (go_at_call 66;refine(dV d H6).mono ?_;rintro e w7 ⟨rfl,h7,f7⟩);exact qh (results_tmp3 results33 _ _ _) rfl (aZ ⟨47,none,p',aC p' 47,d::R6⟩ _ (by rw[HL.eq,HR.out,aP,if_neg (by decide),if_neg (by decide),if_neg (by decide),if_neg (by decide),if_neg (by decide),if_pos rfl,HR6.out];simp only;rw[if_neg HD7.out,if_neg HD2.out]) (HF6.trans f7) h7.any rfl rfl)
    have H47:=Z h47;have q47:(c==47)=false:=beq_eq_false_iff_ne.2 h47;have hwc:IntKind.i64.wrap c=c:=by rw[IntKind.wrap_i64];omega
    have hk:(c<48)∨(57<c∧c<65)∨(90<c∧c<97)∨122<c:=by omega
    clear hkf hD hQ h47;rcases hk with k1|⟨k0,k1⟩|⟨k0,k1⟩|k1
    ·have k3:¬c≥97:=by omega
     have k4:¬c≥65:=by omega
     have k5:¬c≥48:=by omega
     clear k1;go_wp2_with fail;exact qh (results_tmp3 results33 _ _ _) rfl (aZ ⟨c,none,p',aC p' c,R2⟩ _ (by rw[HL.eq,HR.out,aP,if_neg (by rw[←HB.out];decide),if_neg H46.out,if_neg (by rw[HLc.out];decide),if_neg (by rw[HD.out];decide),if_neg HQ.out,if_neg H47.out]) HF5.out H5.any rfl rfl)
    ·have k3:¬c≥97:=by omega
     have k4:¬c≥65:=by omega
     have k5:c≥48:=by omega
     have k6:¬c≤57:=by omega
     clear k0 k1;go_wp2_with fail;exact qh (results_tmp3 results33 _ _ _) rfl (aZ ⟨c,none,p',aC p' c,R2⟩ _ (by rw[HL.eq,HR.out,aP,if_neg (by rw[←HB.out];decide),if_neg H46.out,if_neg (by rw[HLc.out];decide),if_neg (by rw[HD.out];decide),if_neg HQ.out,if_neg H47.out]) HF5.out H5.any rfl rfl)
    ·have k3:¬c≥97:=by omega
     have k4:c≥65:=by omega
     have k7:¬c≤90:=by omega
     have k5:c≥48:=by omega
     have k6:¬c≤57:=by omega
     clear k0 k1;go_wp2_with fail;exact qh (results_tmp3 results33 _ _ _) rfl (aZ ⟨c,none,p',aC p' c,R2⟩ _ (by rw[HL.eq,HR.out,aP,if_neg (by rw[←HB.out];decide),if_neg H46.out,if_neg (by rw[HLc.out];decide),if_neg (by rw[HD.out];decide),if_neg HQ.out,if_neg H47.out]) HF5.out H5.any rfl rfl)
    ·have k3:c≥97:=by omega
     have k8:¬c≤122:=by omega
     have k4:c≥65:=by omega
     have k7:¬c≤90:=by omega
     have k5:c≥48:=by omega
     have k6:¬c≤57:=by omega
     clear k1;go_wp2_with fail;exact qh (results_tmp3 results33 _ _ _) rfl (aZ ⟨c,none,p',aC p' c,R2⟩ _ (by rw[HL.eq,HR.out,aP,if_neg (by rw[←HB.out];decide),if_neg H46.out,if_neg (by rw[HLc.out];decide),if_neg (by rw[HD.out];decide),if_neg HQ.out,if_neg H47.out]) HF5.out H5.any rfl rfl)
end Go.Proofs.YtnclklfhjbkjhaaGreatDoor
namespace Go.Proofs.YtnclklfhjbkjhaaGreatDoor
structure RdOk(Q:Int→Prop)(R acc:List Int)(n:Nat)(x:Rd):Prop where
 mem:∀c∈x.rest,Q c
 ps:∃m,PsOk m x.ps∧m+x.rest.length≤n+R.length
 out:x.out.length+x.rest.length≤acc.length+R.length
theorem sO{Q:Int→Prop}:∀ (R acc:List Int) (p:Ps) (n:Nat),(∀c∈R,Q c)→PsOk n p→RdOk Q R acc n (fP R acc p)
 | [],acc,p,n,hq,hp=>⟨hq,⟨n,hp,by simp[fP]⟩,by simp[fP]⟩
 |c::r,acc,p,n,hq,hp=>by
  unfold fP;split
  ·obtain⟨h1,⟨m,h2,h3⟩,h4⟩:=sO r (acc++ [c]) (aC p c) (n+1) (fun x hx=>hq x (by simp[hx])) (bi c hp);exact⟨h1,⟨m,h2,by simp<;>omega⟩,by simp at h4 ⊢;omega⟩
  ·exact⟨hq,⟨n,hp,by simp⟩,by simp⟩
theorem lE{Q:Int→Prop}:∀ (R acc:List Int) (e:Bool) (p:Ps) (n:Nat),(∀c∈R,Q c)→PsOk n p→RdOk Q R acc n (bV R acc e p)
 | [],acc,e,p,n,hq,hp=>⟨hq,⟨n,hp,by simp[bV]⟩,by simp[bV]⟩
 |c::r,acc,e,p,n,hq,hp=>by
  unfold bV;split
  ·exact⟨hq,⟨n,hp,by simp⟩,by simp⟩
  ·split
   ·obtain⟨h1,⟨m,h2,h3⟩,h4⟩:=lE r (acc++ [c]) (c==101||c==69) (aC p c) (n+1) (fun x hx=>hq x (by simp[hx])) (bi c hp);exact⟨h1,⟨m,h2,by simp<;>omega⟩,by simp at h4 ⊢;omega⟩
   ·exact⟨hq,⟨n,hp,by simp⟩,by simp⟩
theorem m5{Q:Int→Prop}:∀ (R:List Int) (p:Ps) (n:Nat),(∀c∈R,Q c)→PsOk n p→(∀c∈ (bn R p).rest,Q c)∧∃m,PsOk m (bn R p).ps∧m+(bn R p).rest.length≤n+R.length
 | [],p,n,hq,hp=>⟨hq,n,hp,by simp[bn]⟩
 |c::r,p,n,hq,hp=>by
  unfold bn;split
  ·exact⟨fun x hx=>hq x (by simp[hx]),n+1,bi c hp,by simp<;>omega⟩
  ·obtain⟨h1,m,h2,h3⟩:=m5 r (aC p c) (n+1) (fun x hx=>hq x (by simp[hx])) (bi c hp);exact⟨h1,m,h2,by simp<;>omega⟩
theorem kO{Q:Int→Prop}:∀ (R:List Int) (p:Ps) (n:Nat),(∀c∈R,Q c)→PsOk n p→(∀c∈ (aM R p).rest,Q c)∧∃m,PsOk m (aM R p).ps∧m+(aM R p).rest.length≤n+R.length
 | [],p,n,hq,hp=>⟨hq,n,hp,by simp[aM]⟩
 | [c],p,n,hq,hp=>⟨fun x hx=>by simp[aM] at hx,n+1,bi c hp,by simp[aM]⟩
 |c::d::r,p,n,hq,hp=>by
  unfold aM;split
  ·exact⟨fun x hx=>hq x (by simp[hx]),n+1+1,bi d (bi c hp),by simp<;>omega⟩
  ·obtain⟨h1,m,h2,h3⟩:=kO (d::r) (aC p c) (n+1) (fun x hx=>hq x (by simp at hx ⊢;exact .inr hx)) (bi c hp);exact⟨h1,m,h2,by simp at h3 ⊢;omega⟩
theorem sR{Q:Int→Prop}(c:Int)(R:List Int)(h:∀c∈R,Q c):∀x∈ (dt c R).rest,Q x:=by
 match R,h with
 | [],h=>exact fun x hx=>by simp[dt] at hx
 | [c1],h=>exact fun x hx=>by simp[dt] at hx
 |c1::c2::r,h=>
  simp only[dt];split
  ·exact fun x hx=>h x (by simp[hx])
  ·exact fun x hx=>h x (by simp at hx ⊢;exact .inr hx)
theorem r_{Q:Int→Prop}(c:Int)(R:List Int)(h:∀c∈R,Q c):∀x∈ (cu c R).rest,Q x:=by
 match R,h with
 | [],h=>exact fun x hx=>by simp[cu] at hx
 | [c2],h=>
  simp only[cu];split
  ·exact fun x hx=>by simp at hx
  ·exact h
 |c2::c3::r,h=>
  simp only[cu];split
  ·split
   ·exact fun x hx=>h x (by simp[hx])
   ·exact fun x hx=>h x (by simp at hx ⊢;exact .inr hx)
  ·exact h
theorem te{Q:Int→Prop}(c:Int)(R:List Int)(h:∀c∈R,Q c):∀x∈ (aU c R).rest,Q x:=
 jt (fun e=>∀x∈e.rest,Q x) c R (sR c R h) (r_ c R h) (fun x hx=>h x (List.mem_of_mem_drop hx)) (fun x hx=>h x (List.mem_of_mem_drop hx)) (fun _=>h) h
theorem ue{Q:Int→Prop}(q:Int):∀ (k:Nat) (R:List Int) (acc:List UInt8) (p:Ps) (n:Nat),R.length≤k→(∀c∈R,Q c)→PsOk n p→
  (∀c∈ (strF q R acc p).rest,Q c)∧(∃m,PsOk m (strF q R acc p).ps∧m+(strF q R acc p).rest.length≤n+R.length)∧(strF q R acc p).out.length+100* (strF q R acc p).rest.length≤acc.length+100*R.length:=by
 intro k
 induction k with
 |zero=>
  intro R acc p n hk hq hp;have:R=[]:=List.eq_nil_of_length_eq_zero (by omega);subst this;rw[iQ];exact⟨hq,⟨n,hp,by simp⟩,by simp⟩
 |succ k ih=>
  intro R acc p n hk hq hp
  match R,hk,hq with
  | [],_,hq=>rw[iQ];exact⟨hq,⟨n,hp,by simp⟩,by simp⟩
  |c::r,hk,hq=>
   have ht:∀x∈r,Q x:=fun x hx=>hq x (by simp[hx])
   simp only[List.length_cons] at hk;by_cases h1:c=q
   ·subst h1;rw[mv];exact⟨ht,⟨n+1,bi c hp,by simp<;>omega⟩,by simp<;>omega⟩
   ·by_cases h2:c=92
    ·subst h2
     match r,hk,ht with
     | [],_,_=>
      rw[mw h1];exact⟨fun x hx=>by simp at hx,⟨n+1,bi 92 hp,by simp⟩,by simp[bsl]⟩
     |d::r',hk,ht=>
      rw[o8 h1];have hl:=gA d r';have ho:=pH d r';simp only[List.length_cons] at hk;obtain⟨i1,⟨m,i2,i3⟩,i4⟩:=ih (aU d r').rest (acc++ (aU d r').out) (aC p 92) (n+1) (by omega) (te d r' fun x hx=>ht x (by simp[hx])) (bi 92 hp);rw[qk] at i4;exact⟨i1,⟨m,i2,by simp<;>omega⟩,by simp<;>omega⟩
    ·rw[j_ h1 h2];have he:=aI c;obtain⟨i1,⟨m,i2,i3⟩,i4⟩:=ih r (acc++enc c) (aC p c) (n+1) (by omega) ht (bi c hp);rw[qk] at i4;exact⟨i1,⟨m,i2,by simp<;>omega⟩,by simp<;>omega⟩
structure TkOk(Q:Int→Prop)(R:List Int)(n:Nat)(x:Lx):Prop where
 mem:∀c∈x.rest,Q c
 pv:∃m,PsOk m x.pv∧m≤n+R.length
 txt:(txt x).length+1+100*x.rest.length≤100*R.length
 kind:x.t=none→Q x.k
theorem uL{Q:Int→Prop}:∀ (k:Nat) (R:List Int) (p:Ps) (n:Nat) (x:Lx),R.length≤k→(∀c∈R,Q c)→PsOk n p→lexF R p=some x→TkOk Q R n x:=by
 intro k
 induction k with
 |zero=>
  intro R p n x hk hq hp he;have:R=[]:=List.eq_nil_of_length_eq_zero (by omega);subst this;rw[ji] at he;cases he
 |succ k ih=>
  intro R p n x hk hq hp he
  match R,hk,hq with
  | [],_,_=>rw[ji] at he;cases he
  |c::r,hk,hq=>
   have ht:∀x∈r,Q x:=fun x hx=>hq x (by simp[hx])
   have hc:Q c:=hq c (by simp);simp only[List.length_cons] at hk;rw[aP] at he;by_cases h1:iA c=true
   ·rw[if_pos h1] at he;obtain⟨a1,⟨m,a2,a3⟩,a4,a5⟩:=ih r (aC p c) (n+1) x (by omega) ht (bi c hp) he;exact⟨a1,⟨m,a2,by simp<;>omega⟩,by simp<;>omega,a5⟩
   rw[if_neg h1] at he;by_cases h2:c=46
   ·rw[if_pos h2] at he;cases he;subst h2;unfold jW
    match r,ht with
    | [],_=>exact⟨fun x hx=>by simp at hx,⟨n,hp,by simp⟩,by simp[Go.Proofs.YtnclklfhjbkjhaaGreatDoor.txt],fun _=>hc⟩
    |d::r',ht=>
     simp only;split
     ·obtain⟨b1,b2,b3⟩:=lE r' [46,d] false (aC (aC p 46) d) (n+1+1) (fun x hx=>ht x (by simp[hx])) (bi d (bi 46 hp));refine⟨b1,⟨n,hp,by simp<;>omega⟩,?_,fun e=>by cases e⟩;have:=ck (bV r' [46,d] false (aC (aC p 46) d)).out;have:=eQ r' [46,d] false (aC (aC p 46) d);simp only[Go.Proofs.YtnclklfhjbkjhaaGreatDoor.txt,Option.getD_some,List.length_cons,List.length_nil] at b3 ⊢;omega
     ·exact⟨ht,⟨n,hp,by simp<;>omega⟩,by simp[Go.Proofs.YtnclklfhjbkjhaaGreatDoor.txt];omega,fun _=>hc⟩
   rw[if_neg h2] at he;by_cases h3:bB c=true
   ·rw[if_pos h3] at he;cases he;obtain⟨b1,b2,b3⟩:=sO r [c] (aC p c) (n+1) ht (bi c hp);refine⟨b1,⟨n,hp,by simp<;>omega⟩,?_,fun e=>by cases e⟩;have:=ck (fP r [c] (aC p c)).out;have:=lV r [c] (aC p c);simp only[Go.Proofs.YtnclklfhjbkjhaaGreatDoor.txt,Option.getD_some,List.length_cons,List.length_nil] at b3 ⊢;omega
   rw[if_neg h3] at he;by_cases h4:aV c=true
   ·rw[if_pos h4] at he;cases he;obtain⟨b1,b2,b3⟩:=lE r [c] false (aC p c) (n+1) ht (bi c hp);refine⟨b1,⟨n,hp,by simp<;>omega⟩,?_,fun e=>by cases e⟩;have:=ck (bV r [c] false (aC p c)).out;have:=eQ r [c] false (aC p c);simp only[Go.Proofs.YtnclklfhjbkjhaaGreatDoor.txt,Option.getD_some,List.length_cons,List.length_nil] at b3 ⊢;omega
   rw[if_neg h4] at he;by_cases h5:c=39∨c=34
   ·rw[if_pos h5] at he;cases he;obtain⟨b1,b2,b3⟩:=ue c r.length r [] (aC p c) (n+1) qr ht (bi c hp);refine⟨b1,⟨n,hp,by simp<;>omega⟩,?_,fun e=>by cases e⟩;simp only[Go.Proofs.YtnclklfhjbkjhaaGreatDoor.txt,Option.getD_some,List.length_cons,List.length_nil] at b3 ⊢;omega
   rw[if_neg h5] at he;by_cases h6:c=47
   ·rw[if_pos h6] at he
    match r,hk,ht,he with
    | [],_,_,he=>
     cases he;exact⟨fun x hx=>by simp at hx,⟨n,hp,by simp⟩,by simp[Go.Proofs.YtnclklfhjbkjhaaGreatDoor.txt],fun _=>by subst h6;exact hc⟩
    |d::r',hk,ht,he=>
     simp only[List.length_cons] at hk;have ht':∀x∈r',Q x:=fun x hx=>ht x (by simp[hx])
     simp only at he;by_cases h7:d=47
     ·rw[if_pos h7] at he;obtain⟨b1,m,b2,b3⟩:=m5 r' (aC (aC p c) d) (n+1+1) ht' (bi d (bi c hp));have hl:=dX r' (aC (aC p c) d);obtain⟨a1,⟨m',a2,a3⟩,a4,a5⟩:=ih _ _ m x (by omega) b1 b2 he;exact⟨a1,⟨m',a2,by simp<;>omega⟩,by simp<;>omega,a5⟩
     rw[if_neg h7] at he;by_cases h8:d=42
     ·rw[if_pos h8] at he;obtain⟨b1,m,b2,b3⟩:=kO r' (aC (aC p c) d) (n+1+1) ht' (bi d (bi c hp));have hl:=dy r' (aC (aC p c) d);obtain⟨a1,⟨m',a2,a3⟩,a4,a5⟩:=ih _ _ m x (by omega) b1 b2 he;exact⟨a1,⟨m',a2,by simp<;>omega⟩,by simp<;>omega,a5⟩
     rw[if_neg h8] at he;cases he;exact⟨ht,⟨n,hp,by simp<;>omega⟩,by simp[Go.Proofs.YtnclklfhjbkjhaaGreatDoor.txt];omega,fun _=>by subst h6;exact hc⟩
   rw[if_neg h6] at he;cases he;exact⟨ht,⟨n,hp,by simp<;>omega⟩,by simp[Go.Proofs.YtnclklfhjbkjhaaGreatDoor.txt];omega,fun _=>hc⟩
end Go.Proofs.YtnclklfhjbkjhaaGreatDoor
