/- Part of the proof: K0 K1 K2 K3 K4 K5. -/
import Derived.Test.YtnclklfhjbkjhaaGreatDoorDf
import Derived.Test.YtnclklfhjbkjhaaGreatDoorDe
import Derived.Test.YtnclklfhjbkjhaaGreatDoorFb
import Derived.RegionTactic
import Derived.Deep.LoopGhost
import Derived.Laws.Cover4
set_option maxRecDepth 1000000
set_option maxHeartbeats 40000000
set_option linter.unusedSimpArgs false
namespace Go.Proofs.YtnclklfhjbkjhaaGreatDoor
open Tryz
open Go.RowKit Go.Lib
theorem CutsOk.fr{C:RC}{w w':World}{S:Nat→Prop}{v:Value}(h:CutsOk C w v)(f:Fr S w w')(hS:∀k,S k→C.pb<k):CutsOk C w' v:=by
 rcases h with h|⟨cb,co,cl,cc,h1,h2,h2',h3,h4,h5,h6⟩
 ·exact .inl h
 ·refine .inr ⟨cb,co,cl,cc,h1,h2,h2',h3,h4,h5,fun i hi=>?_⟩;obtain⟨z,hz⟩:=h6 i hi;exact⟨z,Fr.cell f (fun e=>by have:=hS _ e;omega) hz⟩
theorem Glob.frS{C:RC}{w w':World}{S:Nat→Prop}(h:Glob C w)(f:Fr S w w')(hS:∀k,S k→C.pb<k):Glob C w':=by
 have hn:∀k,k<24→¬S k:=by
  intro k hk e;have:=C.lo;have:=hS k e;omega
 obtain⟨cs,T,he⟩:=h.ebl;have heb:¬S C.eb:=fun e=>by
  have:=C.el.2.2;have:=hS _ e;omega
 exact⟨Fr.cell f (hn 0 (by omega)) h.eof,⟨cs,T,f.blk heb he⟩,⟨fun c hc=>Fr.cell f (hn 7 (by omega)) (h.tabs.1 c hc),fun i hi=>⟨Fr.cell f (hn 8 (by omega)) (h.tabs.2 i hi).1,Fr.cell f (hn 8 (by omega)) (h.tabs.2 i hi).2⟩⟩⟩
theorem RdB.fr{C:RC}{B:List UInt8}{w w':World}{S:Nat→Prop}(h:RdB C B w)(f:Fr S w w')(hS:∀k,S k→(C.pb<k∧k≠C.bb)∧k≠C.kb∧k≠C.pb)(hT:∀k cs,S k→w.heap[k]? ≠some (.cells cs 174 (0,0))):RdB C B w':=by
 obtain⟨r,e,buf,tx,ev,h,hb⟩:=h;refine⟨r,e,buf,tx,ev,?_,hb⟩;obtain⟨lb,ls,hb⟩:=h.bblk;obtain⟨K,hK,hK2⟩:=h.kblk;obtain⟨cv,hp,hc⟩:=h.pblk;have n1:¬S C.bb:=fun e=>(hS _ e).1.2 rfl
 have n2:¬S C.kb:=fun e=>(hS _ e).2.1 rfl
 have n3:¬S C.pb:=fun e=>(hS _ e).2.2 rfl
 exact⟨⟨lb,ls,f.blk n1 hb⟩,⟨K,⟨f.blk n2 hK.1,hK.2⟩,hK2⟩,⟨cv,f.blk n3 hp,hc.fr f fun k e=>(hS k e).1.1⟩,h.len,h.fit,h.sz,h.err.imp id fun e=>⟨e.1,e.2.fr f hT⟩,h.glob.frS f fun k e=>(hS k e).1.1⟩
theorem aj{w w':World}{S:Nat→Prop}{B n sz:Nat}{e:TypeId}{v:Value}{xs:List Value}(h:w.ownsRow B e sz v n xs)(f:Fr S w w')(hS:∀g,v.ownBlock=some g→¬S g):w'.ownsRow B e sz v n xs:=by
 refine⟨h.1,?_⟩;rcases h.2 with h|⟨g,cap,cur,h1,h2,h3,h4⟩
 ·exact .inl h
 ·refine .inr ⟨g,cap,cur,h1,h2,f.blk (hS g ?_) h3,h4⟩;rw[h1];rfl
theorem ar{w:World}{B n sz g:Nat}{e:TypeId}{v:Value}{xs:List Value}(h:w.ownsRow B e sz v n xs)(hg:v.ownBlock=some g):B≤g∧g<w.heap.size:=by
 rcases h.2 with⟨h,-⟩|⟨g',cap,cur,h1,h2,h3,h4⟩
 ·rw[h] at hg;simp[Value.ownBlock] at hg
 ·rw[h1] at hg;have e:g'=g:=by simpa[Value.ownBlock] using hg
  subst e;exact⟨h2,af h3⟩
theorem ig{w:World}{B n g cap:Nat}{e:TypeId}{xs:List Value}(h:w.ownsRow B e 1 (.slice (some ⟨g,0,none⟩) (n+1) cap) (n+1) xs):w.ownsRow B e 1 (.slice (some ⟨g,0,none⟩) n cap) n (xs.take n):=by
 refine⟨by rw[List.length_take,h.1];omega,?_⟩;rcases h.2 with⟨h,-⟩|⟨g',cap',cur,h1,h2,h3,h4,h5,h6,h7⟩
 ·cases h
 ·cases h1;refine .inr ⟨g,cap,cur,rfl,h2,h3,by omega,h5,h6,?_⟩;rw[←h7,List.take_take];congr 1;omega
theorem bY{w:World}{B n g cap:Nat}{e:TypeId}{xs:List Value}(h:w.ownsRow B e 1 (.slice (some ⟨g,0,none⟩) n cap) n xs)(i:Nat)(hi:i<xs.length):w.cell? ⟨g,i,none⟩=some xs[i]∧n≤cap∧cap≤maxLen:=by
 rcases h.2 with⟨h,-⟩|⟨g',cap',cur,h1,h2,h3,h4,h5,h6,h7⟩
 ·cases h
 ·cases h1;refine⟨?_,h4,h5⟩;rw[ab h3];have hl:=h.1;have:(cur.toList.take (n*1))[i]? =some xs[i]:=by rw[h7];exact List.getElem?_eq_getElem hi
  rw[List.getElem?_take] at this;split at this
  ·simpa using this
  ·cases this
structure RuSt(C:RC)(rr:Nat)(A:Nat→Prop)(ok:Bool)(R:List Int)(w:World):Prop where
 hA:∀k,A k→(C.pb<k∧k≠C.bb)∧k≠C.kb∧k≠C.pb∧k≠rr∧k<w.heap.size
 hr:(C.bb<rr∧C.pb<C.bb∧C.pb<C.kb)∧rr≠C.kb∧rr≠C.pb
 st:∃ (U:List Int) (B:List UInt8) (uv ev:Value),w.heap[rr]? =some (.cells #[.pointer (some ⟨C.bb,0,none⟩),uv,ev] 125 (0,0))∧w.ownsRow (C.bb+1) 21 1 uv U.length (U.map (Value.int .i32))∧
  (∀g,uv.ownBlock=some g→¬A g∧g≠C.kb∧g≠C.pb∧g≠rr)∧RdB C B w∧(∀i,bt B i<240)∧R=U.reverse++bj B∧(ev= .nilIface∨(ok=false∧ErrV C ev w∧U=[]∧B=[]))
theorem RuSt.fr{C:RC}{rr:Nat}{A S:Nat→Prop}{ok:Bool}{R:List Int}{w w':World}(h:RuSt C rr A ok R w)(f:Fr S w w')(hS:∀k,S k→A k)(hT:∀k cs,S k→w.heap[k]? ≠some (.cells cs 174 (0,0))):RuSt C rr A ok R w':=by
 obtain⟨U,B,uv,ev,h1,h2,h3,h4,h5,h6,h7⟩:=h.st;have n:∀k,S k→(C.pb<k∧k≠C.bb)∧k≠C.kb∧k≠C.pb∧k≠rr:=fun k e=>⟨(h.hA k (hS k e)).1,(h.hA k (hS k e)).2.1,(h.hA k (hS k e)).2.2.1,(h.hA k (hS k e)).2.2.2.1⟩
 refine⟨fun k e=>?_,h.hr,U,B,uv,ev,f.blk (fun e=>(n _ e).2.2.2 rfl) h1,aj h2 f fun g hg e=>(h3 g hg).1 (hS g e),h3,h4.fr f (fun k e=>⟨(n k e).1,(n k e).2.1,(n k e).2.2.1⟩) hT,h5,h6,h7.imp id fun e=>⟨e.1,e.2.1.fr f hT,e.2.2⟩⟩;obtain⟨g1,g2,g3,g4,g5⟩:=h.hA k e;exact⟨g1,g2,g3,g4,Nat.lt_of_lt_of_le g5 f.size⟩
theorem RuSt.keep{C:RC}{rr:Nat}{A:Nat→Prop}{ok:Bool}{R:List Int}{w w':World}(h:RuSt C rr A ok R w)(k:Keep w w'):RuSt C rr A ok R w':=h.fr (S:=fun _=>False) k (fun _ e=>e.elim) fun _ _ e=>e.elim
theorem RuSt.more{C:RC}{rr:Nat}{A A':Nat→Prop}{ok:Bool}{R:List Int}{w w':World}(h:RuSt C rr A ok R w)(f:Keep w w')(hA:∀k,A' k→A k∨(w.heap.size≤k∧k<w'.heap.size)):RuSt C rr A' ok R w':=by
 have h':=h.keep f;obtain⟨U,B,uv,ev,h1,h2,h3,h4,h5⟩:=h.st;obtain⟨U',B',uv',ev',k1,k2,k3,k4,k5⟩:=h'.st;have hbb:C.bb<w.heap.size∧C.kb<w.heap.size∧C.pb<w.heap.size:=by
  obtain⟨r,e,buf,tx,ev,hb,-⟩:=h4;exact⟨hb.facts.1,hb.facts.2.1,hb.facts.2.2.1⟩
 have hrr:=af h1;have e1:=f.blk h1;rw[k1] at e1;have euv:uv'=uv:=by
  simp only[Option.some.injEq,Obj.cells.injEq,and_true] at e1;have:=congrArg (fun a:Array Value=>a[1]?) e1;simpa using this
 subst euv;refine⟨fun k e=>?_,h.hr,U',B',uv',ev',k1,k2,fun g hg=>?_,k4,k5⟩
 ·rcases hA k e with e|⟨e,e'⟩
  ·exact h'.hA k e
  ·exact⟨by omega,by omega,by omega,by omega,e'⟩
 ·refine⟨fun e=>?_,(k3 g hg).2⟩;rcases hA g e with e|⟨e,-⟩
  ·exact(k3 g hg).1 e
  ·have:=(ar h2 hg).2;omega
theorem RuSt.less{C:RC}{rr:Nat}{A A':Nat→Prop}{ok:Bool}{R:List Int}{w:World}(h:RuSt C rr A ok R w)(hA:∀k,A' k→A k):RuSt C rr A' ok R w:=
 h.more (Fr.refl w) fun k e=> .inl (hA k e)
theorem RuSt.any{C:RC}{rr:Nat}{A:Nat→Prop}{ok:Bool}{R:List Int}{w:World}(h:RuSt C rr A ok R w):RuSt C rr A false R w:=by
 obtain⟨U,B,uv,ev,h1,h2,h3,h4,h5,h6,h7⟩:=h.st;exact⟨h.hA,h.hr,U,B,uv,ev,h1,h2,h3,h4,h5,h6,h7.imp id fun e=>⟨rfl,e.2⟩⟩
theorem lu(C:RC)(B:List UInt8)(w:World)(h:RdB C B w)(hB:∀i,bt B i<240):Calls prog 96 #[.pointer (some ⟨C.bb,0,none⟩)] w (nM C B w):=
 lq C B w h hB fun r e buf tx w hb hl=>nw C r e buf tx w hb hl
def xT(C:RC)(rr:Nat)(A:Nat→Prop)(R:List Int)(w:World)(e:Ending)(w':World):Prop:=
 Fr (fun k=>C.pb≤k∧¬A k) w w'∧((R=[]∧RuSt C rr A false [] w'∧∃ev,ErrV C ev w'∧e= .returned (.tuple #[.int .i32 0,ev]))∨
  ∃c R',R=c::R'∧RuSt C rr A true R' w'∧e= .returned (.tuple #[.int .i32 c,.nilIface]))
theorem wF{w:World}{rr:Nat}{p:Value}{uv ev v:Value}(h:w.heap[rr]? =some (.cells #[p,uv,ev] 125 (0,0))):(w.setCell ⟨rr,2,none⟩ v).heap[rr]? =some (.cells #[p,uv,v] 125 (0,0)):=ag h 2 v
theorem o9{w:World}{rr:Nat}{p:Value}{uv ev v:Value}(h:w.heap[rr]? =some (.cells #[p,uv,ev] 125 (0,0))):(w.setCell ⟨rr,1,none⟩ v).heap[rr]? =some (.cells #[p,v,ev] 125 (0,0)):=ag h 1 v
theorem RuSt.own{C:RC}{rr:Nat}{A:Nat→Prop}{ok:Bool}{R:List Int}{w w':World}(h:RuSt C rr A ok R w)(f:Fr (fun k=>RS C k∨k=rr) w w'):Fr (fun k=>C.pb≤k∧¬A k) w w':=
 f.mono fun k _ e=>by
  have hlo:=C.lo;have hr:=h.hr;refine⟨?_,fun a=>?_⟩
  ·rcases e with(e|e|e)|e<;>omega
  ·obtain⟨g1,g2,g3,g4,-⟩:=h.hA k a;rcases e with(e|e|e)|e<;>omega
theorem RuSt.turn{C:RC}{rr:Nat}{A:Nat→Prop}{ok:Bool}{R:List Int}{w w':World}(h:RuSt C rr A ok R w)(hs:w.heap.size≤w'.heap.size)(U:List Int)(B:List UInt8)(uv ev:Value)(ok':Bool)(R':List Int)
  (h1:w'.heap[rr]? =some (.cells #[.pointer (some ⟨C.bb,0,none⟩),uv,ev] 125 (0,0))) (h2:w'.ownsRow (C.bb+1) 21 1 uv U.length (U.map (Value.int .i32)))
  (h3:∀g,uv.ownBlock=some g→¬A g∧g≠C.kb∧g≠C.pb∧g≠rr) (h4:RdB C B w') (h5:∀i,bt B i<240) (h6:R'=U.reverse++bj B) (h7:ev= .nilIface∨(ok'=false∧ErrV C ev w'∧U=[]∧B=[])):RuSt C rr A ok' R' w':=by
 refine⟨fun k e=>?_,h.hr,U,B,uv,ev,h1,h2,h3,h4,h5,h6,h7⟩;obtain⟨g1,g2,g3,g4,g5⟩:=h.hA k e;exact⟨g1,g2,g3,g4,Nat.lt_of_lt_of_le g5 hs⟩
theorem pN{B:List UInt8}{n:Nat}(h:∀i,bt B i<240):∀i,bt (B.drop n) i<240:=fun i=>by
 have:=h (n+i);unfold bt at*
 rwa [List.getD_eq_getElem?_getD,List.getElem?_drop,←List.getD_eq_getElem?_getD]
theorem sj{C:RC}{g:Nat}(hr:C.bb<g)(h:g≠C.kb∧g≠C.pb):¬RS C g:=by
 intro e;rcases e with e|e|e<;>omega
theorem iV{w:World}{rr:Nat}{x:Array Value}(h:w.heap[rr]? =some (.cells x 125 (0,0))):∀k cs,k=rr→w.heap[k]? ≠some (.cells cs 174 (0,0)):=by
 intro k cs e;subst e;rw[h];intro e;simp at e
theorem o_{w:World}{B n:Nat}{v:Value}{xs:List Value}(h:w.ownsRow B 21 1 v n xs):∀k cs,v.ownBlock=some k→w.heap[k]? ≠some (.cells cs 174 (0,0)):=by
 intro k cs e;rcases h.2 with⟨h,-⟩|⟨g,cap,cur,h1,h2,h3,-⟩
 ·rw[h] at e;simp[Value.ownBlock] at e
 ·rw[h1] at e;have e':g=k:=by simpa[Value.ownBlock] using e
  subst e';rw[h3];intro e;simp at e
theorem nT(U:List Int):U=[]∨∃V c,U=V++ [c]:=by
 rcases List.eq_nil_or_concat U with h|⟨V,c,h⟩
 ·exact .inl h
 ·exact .inr ⟨V,c,by rw[h,List.concat_eq_append]⟩
theorem nW(C:RC)(rr:Nat)(A:Nat→Prop)(ok:Bool)(R:List Int)(w:World)(h:RuSt C rr A ok R w):
  Calls prog 62 #[.pointer (some ⟨rr,0,none⟩)] w (xT C rr A R w):=by
 have HS:=Z h;obtain⟨U,B,uv,ev,h1,h2,h3,h4,h5,h6,h7⟩:=h.st;have c0:=ab h1 0;have c1:=ab h1 1;have c2:=ab h1 2;have f1:=ae h1 1;have f2:=ae h1 2;simp only[show(#[Value.pointer (some ⟨C.bb,0,none⟩),uv,ev]:Array Value)[0]? =some (.pointer (some ⟨C.bb,0,none⟩)) from rfl] at c0;simp only[show(#[Value.pointer (some ⟨C.bb,0,none⟩),uv,ev]:Array Value)[1]? =some uv from rfl] at c1;simp only[show(#[Value.pointer (some ⟨C.bb,0,none⟩),uv,ev]:Array Value)[2]? =some ev from rfl] at c2;have H1:=Z h1;have H2:=Z h2;have H3:=Z h3;have H4:=Z h4;have H5:=Z h5;have H6:=Z h6;clear h h1 h2 h3 h4 h5 h6;rcases h7 with rfl|⟨-,he,hU,hB⟩
 case inr=>
  obtain⟨b,rfl⟩:=he.form;have HE:=Z he;clear he;have hR:R=[]:=by rw[H6.out,hU,hB];simp[dj]
  go_enter func62,ntmps62;go_wp2_with fail;go_region;go_wp2_with fail;exact qh (results_tmp2 results62 _ _ _) rfl ⟨(Fr.refl _).drew,.inl ⟨hR,(hR▸HS.any).keep ((Fr.refl _).drew),_,HE,rfl⟩⟩
 have HSP:=Z HS.hr;rcases nT U with rfl|⟨V,c,rfl⟩
 ·have H23:=Z (show ∀w2,Fr (RS C) w w2→w2.heap[rr]? =some (.cells #[.pointer (some ⟨C.bb,0,none⟩),uv,.nilIface] 125 (0,0)) from fun w2 f=>f.blk (sj HSP.1.1 HSP.2) H1);have HOW:=Z (show ∀w2,Fr (fun k=>RS C k∨k=rr) w w2→w2.ownsRow (C.bb+1) 21 1 uv 0 [] from fun w2 f=>aj H2 f fun g hg e=>by
   obtain⟨-,k1,k2,k3⟩:=H3 g hg;have k4:=(ar H2 hg).1;rcases e with e|e
   ·exact sj k4 ⟨k1,k2⟩ e
   ·exact k3 e)
  have hz:∃a cap,uv= .slice a 0 cap:=by
   rcases H2.2 with⟨h,-⟩|⟨g,cap,cur,h,-⟩
   ·exact⟨_,_,h⟩
   ·exact⟨_,_,h⟩
  obtain⟨a0,cap0,huv⟩:=hz;have HUV:=Z huv;rw[huv] at c1;clear huv;go_enter func62,ntmps62;go_wp2_with first
   |(go_at_call 96;refine(lu C B _ H4 H5).mono ?_;rintro e w2 ⟨hF2,(⟨hB,hR2,ev,hev,rfl⟩|⟨hB,hR2,rfl⟩)⟩<;>refine Hid.out ?_)
  ·refine Z ?_;have hb2:=H23 w2 hF2;have d2:=ab hb2 2;simp only[show(#[Value.pointer (some ⟨C.bb,0,none⟩),uv,.nilIface]:Array Value)[2]? =some .nilIface from rfl] at d2;have e2:=ae hb2 2;have HB2:=Z hb2;obtain⟨bz,rfl⟩:=hev.form;have HEV:=Z hev;have hRe:R=[]:=by rw[H6.out,hB];simp[dj]
   have HRE:=Z hRe;clear hev hb2 hRe hB;go_wp2_with fail;have f3:Fr (fun k=>RS C k∨k=rr) w (w2.setCell ⟨rr,2,none⟩ (.iface 172 (.pointer (some bz)))):=(hF2.mono fun _ _ e=> .inl e).setIn _ (.inr rfl);refine qh (results_tmp2 results62 _ _ _) rfl ⟨HS.own f3,.inl ⟨HRE.out,HS.turn f3.size [] [] uv _ false [] (wF HB2.out) (HOW.out _ f3) H3.out (hR2.fr (S:=(· =rr)) ((Fr.refl w2).setIn _ rfl) (fun k e=>by subst e;exact⟨⟨Nat.lt_trans HSP.1.2.1 HSP.1.1,Nat.ne_of_gt HSP.1.1⟩,HSP.2⟩) (iV HB2.out)) (fun i=>by simp[bt]) (by simp[dj]) (.inr ⟨rfl,HEV.fr (S:=(· =rr)) ((Fr.refl w2).setIn _ rfl) (iV HB2.out),rfl,rfl⟩),_,HEV.fr (S:=(· =rr)) ((Fr.refl w2).setIn _ rfl) (iV HB2.out),rfl⟩⟩
  ·refine Z ?_;have hRe:R=((ex B).1:Int) ::bj (B.drop (ex B).2):=by rw[H6.out,fL hB];rfl
   have HRE:=Z hRe;clear hRe;go_wp2_with fail;have f3:Fr (fun k=>RS C k∨k=rr) w w2:=hF2.mono fun _ _ e=> .inl e
   exact qh (results_tmp2 results62 _ _ _) rfl ⟨HS.own f3,.inr ⟨_,_,HRE.out,HS.turn f3.size [] (B.drop (ex B).2) uv .nilIface true _ (H23.out w2 hF2) (HOW.out _ f3) H3.out hR2 (pN H5.out) (by simp) (.inl rfl),rfl⟩⟩
 ·obtain⟨g,cap,hg⟩:∃g cap,uv= .slice (some ⟨g,0,none⟩) (V.length+1) cap:=by
   have hl:(V++ [c]).length=V.length+1:=by simp
   rcases H2.2 with⟨-,h⟩|⟨g,cap,cur,h,-⟩
   ·rw[hl] at h;omega
   ·rw[hl] at h;exact⟨g,cap,h⟩
  subst hg;have h2:=H2.out;rw[show(V++ [c]).length=V.length+1 from by simp] at h2;obtain⟨cg,hcap,hmax⟩:=bY h2 V.length (by simp);rw[show((V++ [c]).map (Value.int .i32))[V.length]'(by simp)= .int .i32 c from by simp] at cg;have HPOP:=ig h2;rw[show((V++ [c]).map (Value.int .i32)).take V.length=V.map (Value.int .i32) from by simp] at HPOP;have HPP:=Z HPOP;clear h2 HPOP;have hml:(V.length:Int)+1≤9223372036854775807:=by unfold maxLen at hmax;omega
  have hg0:=H3 g rfl;have hgr:g≠rr:=hg0.2.2.2;clear hg0;have hcz:V.length≤cap:=by omega
  go_enter func62,ntmps62;go_wp2_with fail;go_region;go_wp2_with fail;go_region;go_wp2_with fail;have f3:Fr (fun k=>RS C k∨k=rr) w ((w.drew.drew).setCell ⟨rr,1,none⟩ (.slice (some ⟨g,0,none⟩) V.length cap)):=(Fr.refl w).drew.drew.setIn _ (.inr rfl);have f4:Fr (· =rr) w ((w.drew.drew).setCell ⟨rr,1,none⟩ (.slice (some ⟨g,0,none⟩) V.length cap)):=(Fr.refl w).drew.drew.setIn _ rfl;have hRe:R=c:: (V.reverse++bj B):=by rw[H6.out];simp
  refine qh (results_tmp2 results62 _ _ _) rfl ⟨HS.own f3,.inr ⟨c,_,hRe,HS.turn f3.size V B _ .nilIface true _ (o9 H1) ?_ (fun g' hg'=>H3 g' ?_) (H4.fr f4 (fun k e=>by subst e;exact⟨⟨Nat.lt_trans HSP.1.2.1 HSP.1.1,Nat.ne_of_gt HSP.1.1⟩,HSP.2⟩) (iV H1)) H5 rfl (.inl rfl),rfl⟩⟩
  ·exact aj HPP f4 fun g' hg' e=>by
    simp only[Value.ownBlock,Option.some.injEq] at hg';exact hgr (hg'.trans e)
  ·simpa[Value.ownBlock] using hg'
end Go.Proofs.YtnclklfhjbkjhaaGreatDoor
namespace Go.Proofs.YtnclklfhjbkjhaaGreatDoor
open Tryz
open Go.RowKit Go.Lib
def RRow(B:Nat)(w:World)(v:Value)(xs:List Int):Prop:=w.ownsRow B 21 1 v xs.length (xs.map (Value.int .i32))
theorem RRow.big{B:Nat}{w:World}{v:Value}{xs:List Int}(h:RRow B w v xs)(hx:0<xs.length):∃g cap,v= .slice (some ⟨g,0,none⟩) xs.length cap:=by
 rcases h.2 with⟨-,h⟩|⟨g,cap,cur,h,-⟩
 ·omega
 ·exact⟨g,cap,h⟩
theorem RRow.form{B:Nat}{w:World}{v:Value}{xs:List Int}(h:RRow B w v xs):∃a cap,v= .slice a xs.length cap:=by
 rcases h.2 with⟨h,h0⟩|⟨g,cap,cur,h,-⟩
 ·exact⟨_,0,by rw[h,h0]⟩
 ·exact⟨_,cap,h⟩
theorem xa:(prog.info? 21).map (fun i=>(i.zero,i.size,i.bytes))=some (some (.int .i32 0),1,4):=by kernel_rfl
section
variable {ops:Array Oper} {rest:List Oper} {Q:Exit→Act→World→Prop} {a:Act} {w:World} {pos:String} {after:Array Edge} {ty:TypeId}
theorem bsR{d t:Tmp}{c:Int}(ht:a.tmps.getD t undef= .int .i32 c)
  (next:wpList prog ops Q rest (a.put (some d) (.slice (some ⟨w.heap.size,0,none⟩) 1 1)) (w.alloc (.cells #[.int .i32 c] 21))):
  wpList prog ops Q ({dst:=some d,op:= .buildSlice 123 1 #[(0,.tmp t)],type:=ty,pos:=pos,after:=after,guard:=none} ::rest) a w:=by
 refine wpList_plain rfl fun K hK=>?_
 have ht':a.tmps[t]?.getD undef= .int .i32 c:=by simpa using ht
 unfold Oper.wp;simp[execOp,Act.eval,ht',go_sem];exact hK _ _ next
theorem appR{d d' s t:Tmp}{c:Int}{B:Nat}{v:Value}{xs:List Int}{ty':TypeId}{pos':String}{after':Array Edge}
  (hown:RRow B w v xs) (hB:B≤w.heap.size) (hsm:xs.length≤1000000) (hd:d<a.tmps.size) (hsd:s≠d)
  (hs:a.tmps.getD s undef=v) (ht:a.tmps.getD t undef= .int .i32 c)
  (next:∀v' w',RRow B w' v' (xs++ [c])→Fr (fun k=>v.ownBlock=some k) w w'→OwnStep w v v'→
   wpList prog ops Q rest ((a.put (some d) (.slice (some ⟨w.heap.size,0,none⟩) 1 1)).put (some d') v') w'):
  wpList prog ops Q ({dst:=some d,op:= .buildSlice 123 1 #[(0,.tmp t)],type:=ty,pos:=pos,after:=after,guard:=none} ::
   {dst:=some d',op:= .call {callee:= .builtin .append,args:=#[.tmp s,.tmp d],argTypes:=#[123,123]},type:=ty',pos:=pos',after:=after',guard:=none} ::rest) a w:=by
 refine bsR ht (wpList_step fun K hK=>?_);have hnew:(w.alloc (.cells #[.int .i32 c] 21)).heap[w.heap.size]? =_:=ql w _;have kp:Keep w (w.alloc (.cells #[.int .i32 c] 21)):=(Fr.refl w).alloc _;refine cU rfl (.tmp s) (.tmp d) 123 21 (.int .i32 0) 1 4 underlying123 xa rfl (by decide) (by decide) rfl (B:=B) (m:=xs.length) (v:=v) (xs:=xs.map (Value.int .i32)) ?_ (aj hown kp fun _ _ h=>h) w.heap.size #[.int .i32 c] rfl ?_ hnew (c:=1) ?_ hsm (by simp;omega) ?_
 ·have:(a.tmps.setIfInBounds d (.slice (some ⟨w.heap.size,0,none⟩) 1 1))[s]?.getD undef=v:=by
   rw[Array.getElem?_setIfInBounds,if_neg (Ne.symm hsd)];simpa using hs
  simpa[Act.eval,Act.put] using this
 ·intro u hu;simp only[List.mem_cons,List.not_mem_nil,or_false] at hu;subst hu;rfl
 ·simp[Act.eval,Act.put,hd]
 ·intro g gc w' h1 h2 h3;refine hK _ _ (next _ w' ?_ ((Fr.refl w).andThen (kp.fr.trans h2) (fun i _ h=>h)) ?_)
  ·unfold RRow;rw[qk,List.length_singleton,List.map_append];exact h1
  ·intro x hx;have hx':g=x:=Option.some.inj hx;subst hx';rcases h3 with e|e
   ·exact .inl e
   ·exact .inr (by simp at e;omega)
end
theorem ll(C:RC)(rr:Nat)(A:Nat→Prop)(c:Int)(R:List Int)(w:World)(h:RuSt C rr A true R w)(hlen:R.length≤1000000):
  Calls prog 66 #[.pointer (some ⟨rr,0,none⟩),.int .i32 c] w (fun e w'=>e= .returned (.tuple #[])∧RuSt C rr A true (c::R) w'∧Fr (fun k=>C.pb≤k∧¬A k) w w'):=by
 have HS:=Z h;obtain⟨U,B,uv,ev,h1,h2,h3,h4,h5,h6,h7⟩:=h.st;have hev:ev= .nilIface:=by
  rcases h7 with e|⟨e,-⟩
  ·exact e
  ·cases e
 subst hev;have c1:=ab h1 1;have f1:=ae h1 1;simp only[show(#[Value.pointer (some ⟨C.bb,0,none⟩),uv,.nilIface]:Array Value)[1]? =some uv from rfl] at c1;have hUl:U.length≤1000000:=by rw[h6] at hlen;simp at hlen;omega
 have hrw:=af h1;have hbw:C.bb+1≤w.heap.size:=by have:=h.hr.1;omega
 have H1:=Z h1;have H2:Hid (RRow (C.bb+1) w uv U):=Z h2;have H3:=Z h3;have H4:=Z h4;have H5:=Z h5;have H6:=Z h6;clear h h1 h2 h3 h4 h5 h6 h7;go_enter func66,ntmps66;go_wp2_with (refine appR (B:=C.bb+1) (v:=uv) (xs:=U) (c:=c) H2.out hbw hUl (by simp) (by decide) (by simp) (by simp) ?_;intro v' w' hrow hfr hos;refine Hid.out ?_);refine Z ?_;obtain⟨g,cap,hv⟩:=hrow.big (by simp);rw[qk,List.length_singleton] at hv;subst hv;have hbr:w'.heap[rr]? =some (.cells #[.pointer (some ⟨C.bb,0,none⟩),uv,.nilIface] 125 (0,0)):=hfr.blk (fun e=>(H3 rr e).2.2.2 rfl) H1.out;have d1:=ab hbr 1;simp only[show(#[Value.pointer (some ⟨C.bb,0,none⟩),uv,.nilIface]:Array Value)[1]? =some uv from rfl] at d1;have e1:=ae hbr 1;have HBR:=Z hbr;have HROW:=Z hrow;have HFR:=Z hfr;have HOS:=Z hos;clear hbr hrow hfr hos;go_wp2_with fail;have f3:Fr (fun k=>uv.ownBlock=some k∨k=rr) w (w'.setCell ⟨rr,1,none⟩ (.slice (some ⟨g,0,none⟩) (U.length+1) cap)):=(HFR.mono fun _ _ e=> .inl e).setIn _ (.inr rfl);have hgr:¬A g∧g≠C.kb∧g≠C.pb∧g≠rr:=by
  rcases HOS g rfl with e|e
  ·exact H3 g e
  ·refine⟨fun a=>?_,?_⟩
   ·have:=(HS.hA g a).2.2.2.2;omega
   ·obtain⟨r,e2,buf,tx,ev,hb,-⟩:=H4.out;have:=hb.facts.2.1;have:=hb.facts.2.2.1;omega
 refine bodyPost_end (results_none results66 _ _ _) rfl ⟨rfl,HS.turn f3.size (U++ [c]) B _ .nilIface true _ (o9 HBR) ?_ (fun g' hg'=>?_) (H4.fr f3 (fun k e=>?_) fun k cs e=>e.elim (o_ H2 k cs) (iV H1 k cs)) H5 ?_ (.inl rfl),f3.mono fun k _ e=>⟨?_,fun a=>?_⟩⟩
 ·exact aj HROW (S:=(· =rr)) ((Fr.refl w').setIn _ rfl) fun g' hg' e=>by
   simp only[Value.ownBlock,Option.some.injEq] at hg';exact hgr.2.2.2 (hg'.trans e)
 ·simp only[Value.ownBlock,Option.some.injEq] at hg';exact hg'▸hgr
 ·rcases e with e|e
  ·have h1:=H3 k e;have h2:=(ar H2 e).1;have h3:=HS.hr.1;exact⟨by omega,h1.2.1,h1.2.2.1⟩
  ·subst e;have h3:=HS.hr;exact⟨by omega,h3.2⟩
 ·rw[H6.out];simp
 ·have hlo:=C.lo;have hr:=HS.hr;rcases e with e|e
  ·have:=(ar H2 e).1;omega
  ·omega
 ·rcases e with e|e
  ·exact(H3 k e).1 a
  ·exact(HS.hA k a).2.2.2.1 e
end Go.Proofs.YtnclklfhjbkjhaaGreatDoor
namespace Go.Proofs.YtnclklfhjbkjhaaGreatDoor
open Tryz
open Go.RowKit Go.Lib
theorem RuSt.bbl{C:RC}{rr:Nat}{A:Nat→Prop}{ok:Bool}{R:List Int}{w:World}(h:RuSt C rr A ok R w):C.bb<w.heap.size:=by
 obtain⟨U,B,uv,ev,k1,-⟩:=h.st;have k2:=af k1;have k3:=h.hr.1;omega
theorem PsOk.mono{n m:Nat}{p:Ps}(h:PsOk n p)(hm:n≤m):PsOk m p:=by
 obtain⟨h1,h2,h3,h4⟩:=h;exact⟨h1,by omega,h3,by omega⟩
theorem sA{lx rr:Nat}{p pv:Ps}{w:World}(h:d_ lx rr p pv w):∀k cs,k=lx→w.heap[k]? ≠some (.cells cs 174 (0,0)):=by
 intro k cs e;subst e;rw[h];intro e;simp at e
structure LxSt(C:RC)(lx rr:Nat)(A:Nat→Prop)(ok:Bool)(T d:Nat)(R:List Int)(p pv:Ps)(w:World):Prop where
 la:A lx
 ru:RuSt C rr A ok R w
 lb:d_ lx rr p pv w
 ps:∃n,PsOk n p∧n+R.length+d≤T
 hT:T≤1000000
def LxF(C:RC)(lx:Nat)(A:Nat→Prop)(k:Nat):Prop:=(C.pb≤k∧¬A k)∨k=lx
theorem LxSt.any{C:RC}{lx rr T d:Nat}{A:Nat→Prop}{ok:Bool}{R:List Int}{p pv:Ps}{w:World}(h:LxSt C lx rr A ok T d R p pv w):LxSt C lx rr A false T d R p pv w:=⟨h.la,h.ru.any,h.lb,h.ps,h.hT⟩
theorem LxSt.slack{C:RC}{lx rr T d:Nat}{A:Nat→Prop}{ok:Bool}{R:List Int}{p pv:Ps}{w:World}(h:LxSt C lx rr A ok T (d+1) R p pv w):LxSt C lx rr A ok T d R p pv w:=by
 obtain⟨n,h1,h2⟩:=h.ps;exact⟨h.la,h.ru,h.lb,⟨n,h1,by omega⟩,h.hT⟩
theorem LxSt.len{C:RC}{lx rr T d:Nat}{A:Nat→Prop}{ok:Bool}{R:List Int}{p pv:Ps}{w:World}(h:LxSt C lx rr A ok T d R p pv w):R.length≤1000000:=by
 obtain⟨n,h1,h2⟩:=h.ps;have:=h.hT;omega
theorem LxSt.fr{C:RC}{lx rr T d:Nat}{A S:Nat→Prop}{ok:Bool}{R:List Int}{p pv:Ps}{w w':World}(h:LxSt C lx rr A ok T d R p pv w)(f:Fr S w w')(hS:∀k,S k→A k∧k≠lx)(hT:∀k cs,S k→w.heap[k]? ≠some (.cells cs 174 (0,0))):LxSt C lx rr A ok T d R p pv w':=
 ⟨h.la,h.ru.fr f (fun k e=>(hS k e).1) hT,f.blk (fun e=>(hS _ e).2 rfl) h.lb,h.ps,h.hT⟩
theorem LxSt.keep{C:RC}{lx rr T d:Nat}{A:Nat→Prop}{ok:Bool}{R:List Int}{p pv:Ps}{w w':World}(h:LxSt C lx rr A ok T d R p pv w)(f:Keep w w'):LxSt C lx rr A ok T d R p pv w':=h.fr (S:=fun _=>False) f (fun _ e=>e.elim) fun _ _ e=>e.elim
theorem LxSt.drew{C:RC}{lx rr T d:Nat}{A:Nat→Prop}{ok:Bool}{R:List Int}{p pv:Ps}{w:World}(h:LxSt C lx rr A ok T d R p pv w):LxSt C lx rr A ok T d R p pv w.drew:=h.keep (Fr.refl w).drew
theorem LxSt.more{C:RC}{lx rr T d:Nat}{A A':Nat→Prop}{ok:Bool}{R:List Int}{p pv:Ps}{w w':World}(h:LxSt C lx rr A ok T d R p pv w)(f:Keep w w')(hA:∀k,A' k→A k∨(w.heap.size≤k∧k<w'.heap.size))(hl:A' lx):LxSt C lx rr A' ok T d R p pv w':=
 ⟨hl,h.ru.more f hA,f.blk h.lb,h.ps,h.hT⟩
theorem LxSt.less{C:RC}{lx rr T d:Nat}{A A':Nat→Prop}{ok:Bool}{R:List Int}{p pv:Ps}{w:World}(h:LxSt C lx rr A ok T d R p pv w)(hA:∀k,A' k→A k)(hl:A' lx):LxSt C lx rr A' ok T d R p pv w:=
 ⟨hl,h.ru.less hA,h.lb,h.ps,h.hT⟩
theorem LxSt.lt{C:RC}{lx rr T d:Nat}{A:Nat→Prop}{ok:Bool}{R:List Int}{p pv:Ps}{w:World}(h:LxSt C lx rr A ok T d R p pv w):∀k,A k→k<w.heap.size:=fun k e=>(h.ru.hA k e).2.2.2.2
theorem LxSt.cell{C:RC}{lx rr T d:Nat}{A:Nat→Prop}{ok:Bool}{R:List Int}{p pv:Ps}{w:World}(h:LxSt C lx rr A ok T d R p pv w):w.cell? ⟨lx,0,none⟩=some (.pointer (some ⟨rr,0,none⟩)):=ab h.lb 0
def x8(C:RC)(lx rr:Nat)(A:Nat→Prop)(T d:Nat)(R:List Int)(p pv:Ps)(w:World)(e:Ending)(w':World):Prop:=
 Fr (LxF C lx A) w w'∧((R=[]∧LxSt C lx rr A false T d [] p pv w'∧∃b,ErrV C (.iface 172 (.pointer (some b))) w'∧e= .returned (.tuple #[.int .i32 0,.iface 172 (.pointer (some b))]))∨
  ∃c R',R=c::R'∧LxSt C lx rr A true T (d+1) R' p pv w'∧e= .returned (.tuple #[.int .i32 c,.nilIface]))
theorem eS{C:RC}{lx rr T d:Nat}{A:Nat→Prop}{ok:Bool}{R:List Int}{p pv:Ps}{w:World}(h:LxSt C lx rr A ok T d R p pv w):
  Calls prog 62 #[.pointer (some ⟨rr,0,none⟩)] w (x8 C lx rr A T d R p pv w):=by
 refine(nW C rr A ok R w h.ru).mono ?_;rintro e w' ⟨f,h2⟩;have hb:d_ lx rr p pv w':=f.blk (fun e=>e.2 h.la) h.lb;obtain⟨n,h3,h4⟩:=h.ps;refine⟨f.mono fun _ _ e=> .inl e,?_⟩;rcases h2 with⟨hR,h2,ev,hev,rfl⟩|⟨c,R',hR,h2,rfl⟩
 ·obtain⟨b,rfl⟩:=hev.form;subst hR;exact .inl ⟨rfl,⟨h.la,h2,hb,⟨n,h3,h4⟩,h.hT⟩,b,hev,rfl⟩
 ·subst hR;exact .inr ⟨c,R',rfl,⟨h.la,h2,hb,⟨n,h3,by simp at h4;omega⟩,h.hT⟩,rfl⟩
theorem eD{C:RC}{lx rr T d:Nat}{A:Nat→Prop}{ok:Bool}{R:List Int}{p pv:Ps}{w:World}(c:Int)(h:LxSt C lx rr A ok T (d+1) R p pv w):
  Calls prog 64 #[.pointer (some ⟨lx,0,none⟩),.int .i32 c] w fun e w'=>e= .returned (.tuple #[])∧LxSt C lx rr A ok T d R (aC p c) pv w'∧Fr (LxF C lx A) w w':=by
 obtain⟨n,h3,h4⟩:=h.ps;have hT:=h.hT;refine(oR lx rr p pv c w h.lb n (by omega) h3).mono ?_;rintro e w' ⟨rfl,hb,f⟩;refine⟨rfl,⟨h.la,h.ru.fr f (fun k e=>?_) (sA h.lb),hb,⟨n+1,bi c h3,by omega⟩,h.hT⟩,f.mono fun _ _ e=> .inr e⟩;have e':k=lx:=e;rw[e'];exact h.la
theorem dV{C:RC}{lx rr T d:Nat}{A:Nat→Prop}{R:List Int}{p pv:Ps}{w:World}(c:Int)(h:LxSt C lx rr A true T (d+1) R p pv w):
  Calls prog 66 #[.pointer (some ⟨rr,0,none⟩),.int .i32 c] w fun e w'=>e= .returned (.tuple #[])∧LxSt C lx rr A true T d (c::R) p pv w'∧Fr (LxF C lx A) w w':=by
 obtain⟨n,h3,h4⟩:=h.ps;refine(ll C rr A c R w h.ru h.len).mono ?_;rintro e w' ⟨rfl,hb,f⟩;exact⟨rfl,⟨h.la,hb,f.blk (fun e=>e.2 h.la) h.lb,⟨n,h3,by simp;omega⟩,h.hT⟩,f.mono fun _ _ e=> .inl e⟩
def tQ(C:RC)(lx rr:Nat)(A:Nat→Prop)(T d:Nat)(x:Rd)(pv:Ps)(w:World)(e:Ending)(w':World):Prop:=
 e= .returned (.tuple #[])∧Fr (LxF C lx A) w w'∧LxSt C lx rr A false T d x.rest x.ps pv w'
theorem jh(c:Int)(r:List Int)(p:Ps):bn (c::r) p=if c=10 then⟨[],aC p c,r⟩ else bn r (aC p c):=rfl
theorem lL(C:RC)(lx rr T:Nat)(A:Nat→Prop)(ok:Bool)(R:List Int)(p pv:Ps)(w:World)(h:LxSt C lx rr A ok T 0 R p pv w):
  Calls prog 69 #[.pointer (some ⟨lx,0,none⟩)] w (tQ C lx rr A T 0 (bn R p) pv w):=by
 have HS:=Z h;clear h;go_enter func69,ntmps69;go_wp2_with fail;go_loopg [] R.length (fun k wr=>∃ (ok':Bool) (R':List Int) (p':Ps),k=R'.length∧Hid (bn R' p'=bn R p)∧Hid (Fr (LxF C lx A) w wr)∧Hid (LxSt C lx rr A ok' T 0 R' p' pv wr))
 case atStart=>exact⟨ok,R,p,rfl,Z rfl,Z (Fr.refl _),HS⟩
 case round=>
  obtain⟨ok',R',p',rfl,HE,HF,HL⟩:=hrel;have c0:=HL.cell;go_wp2_with first
   |(go_at_call 62;refine(eS HL).mono ?_;rintro e w2 ⟨f2,(⟨hR,h2,b,hev,rfl⟩|⟨c,R2,hR,h2,rfl⟩)⟩<;>refine Hid.out ?_)
  ·refine Z ?_;have HR:=Z hR;clear hR;go_wp2_with fail;refine qh (results_none results69 _ _ _) rfl ⟨rfl,HF.trans f2,?_⟩;have e:=HE.out;rw[HR.out] at e;rw[←e];exact h2
  ·refine Z ?_;have HR:=Z hR;have H2:=Z h2;have HF2:=Z (HF.trans f2);clear hR h2 f2;by_cases h10:c=10
   ·subst h10;go_wp2_with (go_at_call 64;refine(eD 10 H2).mono ?_;rintro e w3 ⟨rfl,h3,f3⟩);refine qh (results_none results69 _ _ _) rfl ⟨rfl,HF2.trans f3,?_⟩;have e:=HE.out;rw[HR.out,jh,if_pos rfl] at e;rw[←e];exact h3.any
   ·have q10:(c==10)=false:=beq_eq_false_iff_ne.2 h10;have HC:=Z h10;clear h10;go_wp2_with (go_at_call 64;refine(eD c H2).mono ?_;rintro e w3 ⟨rfl,h3,f3⟩;have H3:=Z h3;have HF3:=Z (HF2.trans f3);clear h3 f3);go_roundg R2.length
    case measure=>rw[HR.out];simp
    case rel=>
     have e:=HE.out;rw[HR.out,jh,if_neg HC.out] at e;exact⟨true,R2,aC p' c,rfl,Z e,HF3,H3⟩
theorem mh{c:Int}{r:List Int}{p:Ps}(h:c≠42):aM (c::r) p=aM r (aC p c):=by
 cases r with
 |nil=>rfl
 |cons d r=>
  conv=>lhs;unfold aM
  rw[if_neg fun e=>h e.1]
theorem nJ{c d:Int}{r:List Int}{p:Ps}(h:d≠47):aM (c::d::r) p=aM (d::r) (aC p c):=by
 conv=>lhs;unfold aM
 rw[if_neg fun e=>h e.2]
theorem oJ{r:List Int}{p:Ps}:aM (42::47::r) p=⟨[],aC (aC p 42) 47,r⟩:=by
 unfold aM;rw[if_pos ⟨rfl,rfl⟩]
theorem jZ(C:RC)(lx rr T:Nat)(A:Nat→Prop)(ok:Bool)(R:List Int)(p pv:Ps)(w:World)(h:LxSt C lx rr A ok T 0 R p pv w):
  Calls prog 70 #[.pointer (some ⟨lx,0,none⟩)] w (tQ C lx rr A T 0 (aM R p) pv w):=by
 have HS:=Z h;clear h;go_enter func70,ntmps70;go_wp2_with fail;go_loopg [] R.length (fun k wr=>∃ (ok':Bool) (R':List Int) (p':Ps),k=R'.length∧Hid (aM R' p'=aM R p)∧Hid (Fr (LxF C lx A) w wr)∧Hid (LxSt C lx rr A ok' T 0 R' p' pv wr))
 case atStart=>exact⟨ok,R,p,rfl,Z rfl,Z (Fr.refl _),HS⟩
 case round=>
  obtain⟨ok',R',p',rfl,HE,HF,HL⟩:=hrel;have c0:=HL.cell;go_wp2_with first
   |(go_at_call 62;refine(eS HL).mono ?_;rintro e w2 ⟨f2,(⟨hR,h2,b,hev,rfl⟩|⟨c,R2,hR,h2,rfl⟩)⟩<;>refine Hid.out ?_)
  ·refine Z ?_;have HR:=Z hR;clear hR;go_wp2_with fail;refine qh (results_none results70 _ _ _) rfl ⟨rfl,HF.trans f2,?_⟩;have e:=HE.out;rw[HR.out] at e;rw[←e];exact h2
  ·refine Z ?_;have HR:=Z hR;have H2:=Z h2;have HF2:=Z (HF.trans f2);clear hR h2 f2;by_cases h42:c=42
   ·subst h42;go_wp2_with first
     |(go_at_call 64;refine(eD 42 H2).mono ?_;rintro e w3 ⟨rfl,h3,f3⟩;have H3:=Z h3;have HF3:=Z (HF2.trans f3);have c3:=h3.cell;clear h3 f3)
     |(go_at_call 62;refine(eS H3).mono ?_;rintro e w4 ⟨f4,(⟨hR4,h4,b,hev,rfl⟩|⟨d,R4,hR4,h4,rfl⟩)⟩<;>refine Hid.out ?_)
    ·refine Z ?_;have HR4:=Z hR4;clear hR4;go_wp2_with fail;refine qh (results_none results70 _ _ _) rfl ⟨rfl,HF3.trans f4,?_⟩;have e:=HE.out;rw[HR.out,HR4.out] at e;rw[←e];exact h4
    ·refine Z ?_;have HR4:=Z hR4;have H4:=Z h4;have HF4:=Z (HF3.trans f4);have c4:=h4.cell;clear hR4 h4 f4;by_cases h47:d=47
     ·subst h47;go_wp2_with (go_at_call 64;refine(eD 47 H4).mono ?_;rintro e w5 ⟨rfl,h5,f5⟩);refine qh (results_none results70 _ _ _) rfl ⟨rfl,HF4.trans f5,?_⟩;have e:=HE.out;rw[HR.out,HR4.out,oJ] at e;rw[←e];exact h5.any
     ·have q47:(d==47)=false:=beq_eq_false_iff_ne.2 h47;have HC:=Z h47;clear h47;go_wp2_with (go_at_call 66;refine(dV d H4).mono ?_;rintro e w5 ⟨rfl,h5,f5⟩;have H5:=Z h5;have HF5:=Z (HF4.trans f5);clear h5 f5);go_roundg R2.length
      case measure=>rw[HR.out];simp
      case rel=>
       have e:=HE.out;rw[HR.out,HR4.out,nJ HC.out] at e;exact⟨true,d::R4,aC p' 42,by rw[HR4.out],Z e,HF5,H5⟩
   ·have q42:(c==42)=false:=beq_eq_false_iff_ne.2 h42;have HC:=Z h42;clear h42;go_wp2_with (go_at_call 64;refine(eD c H2).mono ?_;rintro e w3 ⟨rfl,h3,f3⟩;have H3:=Z h3;have HF3:=Z (HF2.trans f3);clear h3 f3);go_roundg R2.length
    case measure=>rw[HR.out];simp
    case rel=>
     have e:=HE.out;rw[HR.out,mh HC.out] at e;exact⟨true,R2,aC p' c,rfl,Z e,HF3,H3⟩
theorem RuSt.grow{C:RC}{rr:Nat}{A A' S:Nat→Prop}{ok:Bool}{R:List Int}{w w':World}(h:RuSt C rr A ok R w)(f:Fr S w w')(hS:∀k,S k→A k)(hT:∀k cs,S k→w.heap[k]? ≠some (.cells cs 174 (0,0)))(hA:∀k,A' k→A k∨(w.heap.size≤k∧k<w'.heap.size)):RuSt C rr A' ok R w':=by
 have h':=h.fr f hS hT;obtain⟨U,B,uv,ev,h1,h2,h3,h4,h5⟩:=h.st;obtain⟨U',B',uv',ev',k1,k2,k3,k4,k5⟩:=h'.st;have hbb:C.bb<w.heap.size∧C.kb<w.heap.size∧C.pb<w.heap.size:=by
  obtain⟨r,e,buf,tx,ev,hb,-⟩:=h4;exact⟨hb.facts.1,hb.facts.2.1,hb.facts.2.2.1⟩
 have hrr:=af h1;have e1:=f.blk (fun e=>(h.hA rr (hS _ e)).2.2.2.1 rfl) h1;rw[k1] at e1;have euv:uv'=uv:=by
  simp only[Option.some.injEq,Obj.cells.injEq,and_true] at e1;have:=congrArg (fun a:Array Value=>a[1]?) e1;simpa using this
 subst euv;refine⟨fun k e=>?_,h.hr,U',B',uv',ev',k1,k2,fun g hg=>?_,k4,k5⟩
 ·rcases hA k e with e|⟨e,e'⟩
  ·exact h'.hA k e
  ·exact⟨by omega,by omega,by omega,by omega,e'⟩
 ·refine⟨fun e=>?_,(k3 g hg).2⟩;rcases hA g e with e|⟨e,-⟩
  ·exact(k3 g hg).1 e
  ·have:=(ar h2 hg).2;omega
structure AccSt(C:RC)(lx rr:Nat)(A:Nat→Prop)(ok:Bool)(T d:Nat)(R:List Int)(p pv:Ps)(av:Value)(xs:List Int)(w:World):Prop where
 al:A lx
 st:LxSt C lx rr (fun k=>A k∨av.ownBlock=some k) ok T d R p pv w
 row:RRow (C.bb+1) w av xs
 na:∀g,av.ownBlock=some g→¬A g
 asc:∀c∈xs,0≤c∧c<128
 len:xs.length+R.length+d≤T
theorem AccSt.nl{C:RC}{lx rr T d:Nat}{A:Nat→Prop}{ok:Bool}{R xs:List Int}{p pv:Ps}{av:Value}{w:World}(h:AccSt C lx rr A ok T d R p pv av xs w)(g:Nat)(hg:av.ownBlock=some g):g≠lx:=fun e=>h.na g hg (e▸h.al)
theorem AccSt.row'{C:RC}{lx rr T d:Nat}{A:Nat→Prop}{ok:Bool}{R xs:List Int}{p pv:Ps}{av:Value}{w w':World}(h:AccSt C lx rr A ok T d R p pv av xs w)(f:Fr (LxF C lx fun k=>A k∨av.ownBlock=some k) w w'):RRow (C.bb+1) w' av xs:=
 aj h.row f fun g hg e=>by
  rcases e with e|e
  ·exact e.2 (.inr hg)
  ·exact h.nl g hg e
theorem LxF.less{C:RC}{lx:Nat}{A:Nat→Prop}{v:Value}{k:Nat}(h:LxF C lx (fun k=>A k∨v.ownBlock=some k) k):LxF C lx A k:=h.imp (fun h=>⟨h.1,fun a=>h.2 (.inl a)⟩) id
theorem AccSt.any{C:RC}{lx rr T d:Nat}{A:Nat→Prop}{ok:Bool}{R xs:List Int}{p pv:Ps}{av:Value}{w:World}(h:AccSt C lx rr A ok T d R p pv av xs w):LxSt C lx rr A false T d R p pv w:=(h.st.any).less (fun _ e=> .inl e) h.al
def ye(C:RC)(lx rr:Nat)(A:Nat→Prop)(T:Nat)(R:List Int)(p pv:Ps)(av:Value)(xs:List Int)(w:World)(e:Ending)(w':World):Prop:=
 Fr (LxF C lx A) w w'∧((R=[]∧AccSt C lx rr A false T 0 [] p pv av xs w'∧∃b,e= .returned (.tuple #[.int .i32 0,.iface 172 (.pointer (some b))]))∨
  ∃c R',R=c::R'∧AccSt C lx rr A true T 1 R' p pv av xs w'∧e= .returned (.tuple #[.int .i32 c,.nilIface]))
theorem pO{C:RC}{lx rr T:Nat}{A:Nat→Prop}{ok:Bool}{R xs:List Int}{p pv:Ps}{av:Value}{w:World}(h:AccSt C lx rr A ok T 0 R p pv av xs w):
  Calls prog 62 #[.pointer (some ⟨rr,0,none⟩)] w (ye C lx rr A T R p pv av xs w):=by
 refine(eS h.st).mono ?_;rintro e w' ⟨f,h2⟩;refine⟨f.mono fun _ _ e=>e.less,?_⟩;have hl:=h.len;rcases h2 with⟨hR,h2,b,-,rfl⟩|⟨c,R',hR,h2,rfl⟩
 ·subst hR;exact .inl ⟨rfl,⟨h.al,h2,h.row' f,h.na,h.asc,hl⟩,b,rfl⟩
 ·subst hR;exact .inr ⟨c,R',rfl,⟨h.al,h2,h.row' f,h.na,h.asc,by simp at hl;omega⟩,rfl⟩
theorem oS{C:RC}{lx rr T d:Nat}{A:Nat→Prop}{ok:Bool}{R xs:List Int}{p pv:Ps}{av:Value}{w:World}(c:Int)(h:AccSt C lx rr A ok T (d+1) R p pv av xs w):
  Calls prog 64 #[.pointer (some ⟨lx,0,none⟩),.int .i32 c] w fun e w'=>e= .returned (.tuple #[])∧LxSt C lx rr (fun k=>A k∨av.ownBlock=some k) ok T d R (aC p c) pv w'∧RRow (C.bb+1) w' av xs∧Fr (LxF C lx A) w w':=by
 refine(eD c h.st).mono ?_;rintro e w' ⟨rfl,h2,f⟩;exact⟨rfl,h2,h.row' f,f.mono fun _ _ e=>e.less⟩
theorem gU{C:RC}{lx rr T d:Nat}{A:Nat→Prop}{R xs:List Int}{p pv:Ps}{av:Value}{w:World}(c:Int)(h:AccSt C lx rr A true T (d+1) R p pv av xs w):
  Calls prog 66 #[.pointer (some ⟨rr,0,none⟩),.int .i32 c] w fun e w'=>e= .returned (.tuple #[])∧AccSt C lx rr A true T d (c::R) p pv av xs w'∧Fr (LxF C lx A) w w':=by
 refine(dV c h.st).mono ?_;rintro e w' ⟨rfl,h2,f⟩;have hl:=h.len;exact⟨rfl,⟨h.al,h2,h.row' f,h.na,h.asc,by simp;omega⟩,f.mono fun _ _ e=>e.less⟩
theorem mj{C:RC}{lx rr T:Nat}{A:Nat→Prop}{ok:Bool}{R xs:List Int}{p pv:Ps}{av av':Value}{c:Int}{w w':World}(al:A lx)(na:∀g,av.ownBlock=some g→¬A g)(asc:∀c∈xs,0≤c∧c<128)(hc:0≤c∧c<128)(hl:xs.length+R.length+1≤T)
  (h:LxSt C lx rr (fun k=>A k∨av.ownBlock=some k) ok T 0 R p pv w) (hrow0:RRow (C.bb+1) w av xs) (hrow:RRow (C.bb+1) w' av' (xs++ [c])) (f:Fr (fun k=>av.ownBlock=some k) w w') (os:OwnStep w av av'):
  AccSt C lx rr A ok T 0 R p pv av' (xs++ [c]) w'∧Fr (LxF C lx A) w w':=by
 have hx:∀k,av.ownBlock=some k→k≠lx:=fun k hk e=>na k hk (e▸al)
 refine⟨⟨al,⟨.inl al,h.ru.grow f (fun k e=> .inr e) (o_ hrow0) (fun k e=>?_),f.blk (fun e=>hx _ e rfl) h.lb,h.ps,h.hT⟩,hrow,fun g hg a=>?_,?_,by simp;omega⟩,f.mono fun k _ e=> .inl ⟨?_,na k e⟩⟩
 ·rcases e with e|e
  ·exact .inl (.inl e)
  ·rcases os k e with g|g
   ·exact .inl (.inr g)
   ·exact .inr ⟨g,(ar hrow e).2⟩
 ·rcases os g hg with g'|g'
  ·exact na g g' a
  ·have:=(h.ru.hA g (.inl a)).2.2.2.2;omega
 ·intro x hx;rcases List.mem_append.1 hx with hx|hx
  ·exact asc x hx
  ·rw[List.mem_singleton.1 hx];exact hc
 ·have h1:=(h.ru.hA k (.inr e)).1;have:=C.lo;omega
theorem rj(c:Int)(h:0≤c∧c<128):(Utf8.encode c).toList=enc c:=by
 obtain⟨n,rfl⟩:=Int.eq_ofNat_of_zero_le h.1;have hn:n<128:=by omega
 have v:Utf8.valid (n:Int)=true:=by simp[Utf8.valid];omega
 have e1:(Utf8.encode (n:Int)).data.toList=[UInt8.ofNat n]:=by simp[Utf8.encode,v,hn]
 rw[qi,e1];unfold enc Go.Lib.encodeRune;rw[Go.Lib.encodeRuneZ_one (by omega) (by omega)];simp[Nat.toUInt8]
theorem fZ(xs:List Int):∀s:ByteArray,(∀c∈xs,0≤c∧c<128)→(xs.foldl (fun r n=>r++Utf8.encode n) s).toList=s.toList++aO xs:=by
 induction xs with
 |nil=>intro s _;simp[aO]
 |cons c xs ih=>
  intro s h;rw[List.foldl_cons,ih _ fun x hx=>h x (by simp[hx])];have e:=rj c (h c (by simp));have:(s++Utf8.encode c).toList=s.toList++enc c:=by
   rw[qi] at e;rw[qi,qi,ByteArray.data_append,Array.toList_append,e]
  rw[this];simp[aO]
theorem mE{B:Nat}{w:World}{v:Value}{xs:List Int}(h:RRow B w v xs)(ha:∀c∈xs,0≤c∧c<128)(hx:0<xs.length):∃t:ByteArray,(convert 123 9 v).run prog w= .ok (.string t) w∧t.toList=aO xs:=by
 obtain⟨g,cap,rfl⟩:=h.big hx;refine⟨runesBytes xs,?_,?_⟩
 ·have hr:=run_convert_runes (P:=prog) w 123 9 21 ⟨g,0,none⟩ xs.length cap xs qr (by kernel_rfl) (by kernel_rfl) (by kernel_rfl) fun j hj=>by
   have h2:=(bY (show w.ownsRow B 21 1 (.slice (some ⟨g,0,none⟩) xs.length cap) xs.length (xs.map (Value.int .i32)) from h) j (by simpa using hj)).1;rw[show(Addr.add ⟨g,0,none⟩ j)=⟨g,j,none⟩ from by simp[Addr.add]<;>omega,h2];simp[List.getD,hj]
  rw[List.take_length] at hr;exact hr
 ·unfold runesBytes;rw[fZ xs _ ha,show ByteArray.empty.toList=[] from by rw[qi];rfl,List.nil_append]
end Go.Proofs.YtnclklfhjbkjhaaGreatDoor
