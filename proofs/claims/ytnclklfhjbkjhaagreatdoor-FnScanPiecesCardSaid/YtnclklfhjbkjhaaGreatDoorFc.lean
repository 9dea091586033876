/- Part of the proof: F7 F9. -/
import Derived.Test.YtnclklfhjbkjhaaGreatDoorFb
set_option maxRecDepth 1000000
set_option maxHeartbeats 40000000
set_option linter.unusedSimpArgs false
namespace Go.Proofs.YtnclklfhjbkjhaaGreatDoor
open Tryz
open Go.RowKit
theorem cP(a b:List Tk):bv (a++b)=bv a++bv b:=by simp[bv]
theorem cI:∀ (a:List Tk),(bv a).length=a.length*5
 | []=>rfl
 |x::r=>by
  have:=cI r;simp only[bv,List.flatMap_cons,qk,List.length_cons] at*
  rw[this];simp[Tk.cells];omega
theorem gS{w:World}{b k j:Nat}{v u:Value}(h:w.cell? ⟨b,k,none⟩=some v)(hk:k≠j):(w.setCell ⟨b,j,none⟩ u).cell? ⟨b,k,none⟩=some v:=by
 rw[←h];exact World.cell?_setCell_other w _ _ _ (fun e=>hk (by cases e;rfl))
theorem wK{B e sz n c g j:Nat}{xs:List Value}{w:World}(h:w.ownsRow B e sz (.slice (some ⟨g,0,none⟩) n c) n xs)(u:Value)(_hj:j<xs.length):(w.setCell ⟨g,j,none⟩ u).ownsRow B e sz (.slice (some ⟨g,0,none⟩) n c) n (xs.set j u):=by
 obtain⟨h1,h2⟩:=h;refine⟨by rw[List.length_set];exact h1,?_⟩;rcases h2 with⟨h2,-⟩|⟨g',cap,cur,h2,hb,hg,hc,hcm,hs,ht⟩
 ·cases h2
 ·cases h2;refine .inr ⟨g,c,cur.setIfInBounds j u,rfl,hb,ag hg j u,hc,hcm,by simpa using hs,?_⟩;rw[Array.toList_setIfInBounds,←ht,List.take_set]
structure LMg(w0:World)(lb:Nat)(s:ByteArray)(a:Nat)(how:Int)(ts:List Tk)(m g:Nat)(w:World):Prop where
 keep:Keep w0 w
 low:w0.heap.size≤lb
 st:∃ (ln bg:Int) (iv:Value) (kc:Nat) (xs:List Value),LBlk lb s a ln bg how iv (.slice (some ⟨g,0,none⟩) ts.length kc) w∧0≤ln∧ln≤a+1∧w.ownsRow (lb+1) 144 9 iv m xs∧w.ownsRow (lb+1) 48 5 (.slice (some ⟨g,0,none⟩) ts.length kc) ts.length (bv ts)∧iv.ownBlock≠some g
theorem LMg.lm{w0:World}{lb a m g:Nat}{s:ByteArray}{how:Int}{ts:List Tk}{w:World}(h:LMg w0 lb s a how ts m g w):LM w0 lb s a how ts m w:=by
 obtain⟨k,l,ln,bg,iv,kc,xs,h1,h2,h3,h4,h5,h6⟩:=h;refine⟨k,l,ln,bg,iv,_,xs,h1,h2,h3,h4,h5,fun g' hg' e=>?_⟩;cases e;exact h6 hg'
theorem LMg.set{w0:World}{lb a m g:Nat}{s:ByteArray}{how:Int}{ts:List Tk}{t t':Tk}{w:World}(h:LMg w0 lb s a how (ts++ [t]) m g w)(j:Nat)(hj:j<5)(u:Value)(ht:t'.cells=t.cells.set j u):
  LM w0 lb s a how (ts++ [t']) m (w.setCell ⟨g,ts.length*5+j,none⟩ u):=by
 obtain⟨k,l,ln,bg,iv,kc,xs,h1,h2,h3,h4,h5,h6⟩:=h;have hg:lb+1≤g:=(World.ownsRow.lt h5 g rfl).1;have f:Fr (· =g) w (w.setCell ⟨g,ts.length*5+j,none⟩ u):=(Fr.refl w).setIn _ rfl;have hl:(ts++ [t']).length=(ts++ [t]).length:=by simp
 refine⟨Fr.setNew k _ (by simp only;omega),l,ln,bg,iv,.slice (some ⟨g,0,none⟩) (ts++ [t']).length kc,xs,?_,h2,h3,aQ h4 f (fun g' hg' e=>h6 (by rw[hg',e])),?_,fun g' hg' e=>by cases e;exact h6 hg'⟩
 ·rw[hl];unfold LBlk;rw[←h1];exact f.block lb (af h1) (by omega)
 ·have hx:=wK h5 (j:=ts.length*5+j) u (by rw[cI];simp;omega);rw[hl];have e:(bv (ts++ [t])).set (ts.length*5+j) u=bv (ts++ [t']):=by
   rw[cP,cP,List.set_append_right _ _ (by rw[cI];omega),cI];congr 1;rw[show ts.length*5+j-ts.length*5=j from by omega];simp[bv,ht]
  rw[←e];exact hx
theorem aK(w0:World)(lb:Nat)(s:ByteArray)(hs:s.size≤100000)(a n m:Nat)(how:Int)(ts:List Tk)(kind:Int)(bk:ByteArray)(w:World)(h:LM w0 lb s a how ts m w)(hn:a+n≤s.size)(hm:m≤500000)(ht:ts.length≤500000):
  Calls prog 20 #[.pointer (some ⟨lb,0,none⟩),.string bk,.int .i64 kind,.int .i64 n] w fun e w'=>∃g,e= .returned (.pointer (some ⟨g,ts.length*5,none⟩))∧LMg w0 lb s (a+n) how (ts++ [⟨kind,s.extract a (a+n),⟨#[]⟩,0,m⟩]) (m+1) g w':=by
 obtain⟨hk0,hlow,ln,bg,iv,tv,xs,h1,h2,h3,h4,h5,h6⟩:=h;obtain⟨ia,ic,rfl,hic⟩:=gf h4;obtain⟨ta,tc,rfl,htc⟩:=gf h5;have HL:=Z h1;have HI:=Z h4;have HT:=Z h5;have HK:=Z hk0;have HN:=Z h6;obtain⟨b,c0,c1,-,-,c4,c5,-,-,-,-,-,f5,-⟩:=h1.facts;have hsz:(a:Int)≤(a:Int)+(n:Int):=by omega
 have hsz2:(a:Int)+(n:Int)≤(s.size:Int):=by omega
 have ha0:(0:Int)≤(a:Int):=by omega
 have hw1:IntKind.i64.wrap ((a:Int)+(n:Int))=(a:Int)+(n:Int):=IntWalk.i64_in _ (by omega);have n5:=World.new_ne w _ c5;obtain⟨tn,htn⟩:∃tn,ts.length=tn:=⟨_,rfl⟩;rw[htn] at c5 HT HL HN htc ht;have HTN:=Z htn;clear h1 h4 h5 hk0 h6 htn;have y0:∀w',Keep w w'→w'.cell? ⟨lb,0,none⟩=some (.string s)∧w'.cell? ⟨lb,1,none⟩=some (.int .i64 a)∧w'.cell? ⟨lb,4,none⟩=some (.slice ia m ic):=fun w' k=>⟨Keep.cell k c0,Keep.cell k c1,Keep.cell k c4⟩
 have own:∀k,(Value.slice ta tn tc).ownBlock=some k→k≠lb:=fun k hk=>by
  have:=World.ownsRow.lt HT k hk;omega
 have hbl:lb+1≤w.heap.size:=b;have hy0:∀W w9,Keep w W→Fr (fun k=>(Value.slice ta tn tc).ownBlock=some k) W w9→w9.cell? ⟨lb,0,none⟩=some (.string s)∧w9.cell? ⟨lb,1,none⟩=some (.int .i64 a)∧w9.cell? ⟨lb,4,none⟩=some (.slice ia m ic):=fun W w9 k f=>by
  have hb:w9.heap[lb]? =_:=Fr.blk f (fun e=>own lb e rfl) (HL.keep k);exact⟨ab hb 0,ab hb 1,ab hb 4⟩
 have hy9:∀W w9,Keep w W→Fr (fun k=>(Value.slice ta tn tc).ownBlock=some k) W w9→lb<w9.heap.size∧w9.cell? ⟨lb,5,none⟩=some (.slice ta tn tc)∧w9.frozen? ⟨lb,5,none⟩=false:=fun W w9 k f=>by
  have hb:w9.heap[lb]? =_:=Fr.blk f (fun e=>own lb e rfl) (HL.keep k);exact⟨af hb,ab hb 5,ae hb 5⟩
 have hyS:∀ {W:World} {u:Value},(W.cell? ⟨lb,0,none⟩=some (.string s)∧W.cell? ⟨lb,1,none⟩=some (.int .i64 a)∧W.cell? ⟨lb,4,none⟩=some (.slice ia m ic))→((W.setCell ⟨lb,5,none⟩ u).cell? ⟨lb,0,none⟩=some (.string s)∧(W.setCell ⟨lb,5,none⟩ u).cell? ⟨lb,1,none⟩=some (.int .i64 a)∧(W.setCell ⟨lb,5,none⟩ u).cell? ⟨lb,4,none⟩=some (.slice ia m ic)):=fun⟨p,q,r⟩=>⟨gS p (by decide),gS q (by decide),gS r (by decide)⟩
 go_enter func20,ntmps20;go_upto_region 1 with fail;go_cut [] (fun wx=>∃ (g kc:Nat),Hid (LBlk lb s a ln bg how (.slice ia m ic) (.slice (some ⟨g,0,none⟩) (tn+1) kc) wx∧Fr (fun k=>k=lb∨(Value.slice ta tn tc).ownBlock=some k) w wx∧wx.ownsRow (lb+1) 48 5 (.slice (some ⟨g,0,none⟩) (tn+1) kc) (tn+1) (bv ts++ [.int .i64 kind,.string (s.extract a (a+n)),.string ⟨#[]⟩,.int .u64 0,.int .i64 m])∧((Value.slice ta tn tc).ownBlock=some g∨w.heap.size≤g)))
 case first=>
  refine wp_region_held_drew (S:=(fun w'=>w'.cell? ⟨lb,0,none⟩=some (.string s)∧w'.cell? ⟨lb,1,none⟩=some (.int .i64 a)∧w'.cell? ⟨lb,4,none⟩=some (.slice ia m ic))) (by kernel_rfl) (y0 _ (by(repeat(first|(with_reducible exact Fr.refl _)|(with_reducible apply Fr.drew)|(with_reducible apply Fr.alloc))))) (fun hHeld=>?_)
  iterate 4
   refine dP (v:=?_) 0 rfl rfl (by kernel_rfl) (by rfl) (fun _ _ _ h=>h) ?_ hHeld ?_;rotate_left
   ·intro w hSw
    (try dsimp only at hSw)
    go_simp
    try with_reducible rfl
   try simp only[qa,qb,qc,Act.put,qd,qe,qf]
  iterate 22
   refine dP (v:=?_) 5 rfl rfl (by kernel_rfl) (by rfl) (fun _ _ _ h=>h) ?_ hHeld ?_;rotate_left
   ·intro w hSw
    (try dsimp only at hSw)
    go_simp
    try with_reducible rfl
   try simp only[qa,qb,qc,Act.put,qd,qe,qf]
  refine wpAnyH_ready (rs:=[4,27]) (by kernel_rfl) (by simp) ?_;refine AllReadyH.cons rfl (fun K hK=>?_) ?_
  ·go_simp;refine hK.out _ _ (y0 _ (by(repeat(first|(with_reducible exact Fr.refl _)|(with_reducible apply Fr.drew)|(with_reducible apply Fr.alloc))))) (fun hHeld=>?_);clear hK K
   try simp only[qa,qb,qc,Act.put,qd,qe,qf]
   refine wpAnyH_ready (rs:=[27]) (by kernel_rfl) (by simp) ?_;refine AllReadyH.cons rfl (fun K hK=>?_) AllReadyH.nil;go_simp;refine hK.out _ _ (y0 _ (by(repeat(first|(with_reducible exact Fr.refl _)|(with_reducible apply Fr.drew)|(with_reducible apply Fr.alloc))))) (fun hHeld=>?_);clear hK K
   try simp only[qa,qb,qc,Act.put,qd,qe,qf]
   refine wpAnyH_ready (rs:=[28]) (by kernel_rfl) (by simp) ?_;refine AllReadyH.cons rfl (fun K hK=>?_) AllReadyH.nil;refine cU (by rfl) (.tmp 13) (.tmp 36) 28 48 zf 5 56 underlying28 sL (by rfl) (by decide) (by decide) (by rfl) (v:= .slice ta tn tc) (by rfl) (aQ HT.out (show Keep w _ from by(repeat(first|(with_reducible exact Fr.refl _)|(with_reducible apply Fr.drew)|(with_reducible apply Fr.alloc)))) (fun _ _ h=>h)) w.heap.size #[.int .i64 kind,.string (s.extract a (a+n)),.string ⟨#[]⟩,.int .u64 0,.int .i64 m] (by rfl) (by simp[Value.oneCell']) (ql w _) (by rfl) (by omega) (Nat.le_trans hbl (Fr.size (show Keep w _ from by(repeat(first|(with_reducible exact Fr.refl _)|(with_reducible apply Fr.drew)|(with_reducible apply Fr.alloc)))))) ?_;intro g9 kc9 w9 hr9 f9 hg9;obtain⟨e6,e4,e5⟩:=hy9 _ w9 (show Keep w _ from by(repeat(first|(with_reducible exact Fr.refl _)|(with_reducible apply Fr.drew)|(with_reducible apply Fr.alloc)))) f9;go_simp;refine hK.out _ _ (hy0 _ _ (show Keep w _ from by(repeat(first|(with_reducible exact Fr.refl _)|(with_reducible apply Fr.drew)|(with_reducible apply Fr.alloc)))) f9) (fun hHeld=>?_);clear hK K
   try simp only[qa,qb,qc,Act.put,qd,qe,qf]
   iterate 2
    refine dP (v:=?_) 29 rfl rfl (by kernel_rfl) (by rfl) (fun _ _ _ h=>h) ?_ hHeld ?_;rotate_left
    ·intro w hSw
     (try dsimp only at hSw)
     go_simp
     try with_reducible rfl
    try simp only[qa,qb,qc,Act.put,qd,qe,qf]
   refine wpAnyH_ready (rs:=[31]) (by kernel_rfl) (by simp) ?_;refine AllReadyH.cons rfl (fun K hK=>?_) AllReadyH.nil;go_simp;refine hK.out _ _ (hyS (hy0 _ _ (show Keep w _ from by(repeat(first|(with_reducible exact Fr.refl _)|(with_reducible apply Fr.drew)|(with_reducible apply Fr.alloc)))) f9)) (fun hHeld=>?_);clear hK K
   try simp only[qa,qb,qc,Act.put,qd,qe,qf]
   refine wpAnyH_done (by kernel_rfl) ?_ _;go_wp2_with fail;go_meet;have f0:Fr (fun k=>(Value.slice ta tn tc).ownBlock=some k) w w9:=Fr.trans ((show Keep w _ from by(repeat(first|(with_reducible exact Fr.refl _)|(with_reducible apply Fr.drew)|(with_reducible apply Fr.alloc)))).mono fun _ _ h=>h.elim) f9;have hb:w9.heap[lb]? =_:=Fr.blk f0 (fun e=>own lb e rfl) HL.out;refine⟨g9,kc9,Z ⟨?_,(f0.mono fun _ _ h=> .inr h).setIn _ (.inl rfl),aQ hr9 ((Fr.refl w9).setIn (S:=(· =lb)) (p:=⟨lb,5,none⟩) _ rfl) ?_,?_⟩⟩
   ·unfold LBlk;rw[ag hb];rfl
   ·intro g' hg' e;have:=World.ownsRow.lt hr9 g' hg';omega
   ·rcases hg9 with h|h
    ·exact .inl h
    ·exact .inr (Nat.le_trans (Fr.size (show Keep w _ from by(repeat(first|(with_reducible exact Fr.refl _)|(with_reducible apply Fr.drew)|(with_reducible apply Fr.alloc))))) h)
  refine AllReadyH.cons rfl (fun K hK=>?_) AllReadyH.nil;go_simp;refine hK.out _ _ (y0 _ (by(repeat(first|(with_reducible exact Fr.refl _)|(with_reducible apply Fr.drew)|(with_reducible apply Fr.alloc))))) (fun hHeld=>?_);clear hK K
  try simp only[qa,qb,qc,Act.put,qd,qe,qf]
  refine wpAnyH_ready (rs:=[4]) (by kernel_rfl) (by simp) ?_;refine AllReadyH.cons rfl (fun K hK=>?_) AllReadyH.nil;go_simp;refine hK.out _ _ (y0 _ (by(repeat(first|(with_reducible exact Fr.refl _)|(with_reducible apply Fr.drew)|(with_reducible apply Fr.alloc))))) (fun hHeld=>?_);clear hK K
  try simp only[qa,qb,qc,Act.put,qd,qe,qf]
  refine wpAnyH_ready (rs:=[28]) (by kernel_rfl) (by simp) ?_;refine AllReadyH.cons rfl (fun K hK=>?_) AllReadyH.nil;refine cU (by rfl) (.tmp 13) (.tmp 36) 28 48 zf 5 56 underlying28 sL (by rfl) (by decide) (by decide) (by rfl) (v:= .slice ta tn tc) (by rfl) (aQ HT.out (show Keep w _ from by(repeat(first|(with_reducible exact Fr.refl _)|(with_reducible apply Fr.drew)|(with_reducible apply Fr.alloc)))) (fun _ _ h=>h)) w.heap.size #[.int .i64 kind,.string (s.extract a (a+n)),.string ⟨#[]⟩,.int .u64 0,.int .i64 m] (by rfl) (by simp[Value.oneCell']) (ql w _) (by rfl) (by omega) (Nat.le_trans hbl (Fr.size (show Keep w _ from by(repeat(first|(with_reducible exact Fr.refl _)|(with_reducible apply Fr.drew)|(with_reducible apply Fr.alloc)))))) ?_;intro g9 kc9 w9 hr9 f9 hg9;obtain⟨e6,e4,e5⟩:=hy9 _ w9 (show Keep w _ from by(repeat(first|(with_reducible exact Fr.refl _)|(with_reducible apply Fr.drew)|(with_reducible apply Fr.alloc)))) f9;go_simp;refine hK.out _ _ (hy0 _ _ (show Keep w _ from by(repeat(first|(with_reducible exact Fr.refl _)|(with_reducible apply Fr.drew)|(with_reducible apply Fr.alloc)))) f9) (fun hHeld=>?_);clear hK K
  try simp only[qa,qb,qc,Act.put,qd,qe,qf]
  iterate 2
   refine dP (v:=?_) 29 rfl rfl (by kernel_rfl) (by rfl) (fun _ _ _ h=>h) ?_ hHeld ?_;rotate_left
   ·intro w hSw
    (try dsimp only at hSw)
    go_simp
    try with_reducible rfl
   try simp only[qa,qb,qc,Act.put,qd,qe,qf]
  refine wpAnyH_ready (rs:=[31]) (by kernel_rfl) (by simp) ?_;refine AllReadyH.cons rfl (fun K hK=>?_) AllReadyH.nil;go_simp;refine hK.out _ _ (hyS (hy0 _ _ (show Keep w _ from by(repeat(first|(with_reducible exact Fr.refl _)|(with_reducible apply Fr.drew)|(with_reducible apply Fr.alloc)))) f9)) (fun hHeld=>?_);clear hK K
  try simp only[qa,qb,qc,Act.put,qd,qe,qf]
  refine wpAnyH_done (by kernel_rfl) ?_ _;go_wp2_with fail;go_meet;have f0:Fr (fun k=>(Value.slice ta tn tc).ownBlock=some k) w w9:=Fr.trans ((show Keep w _ from by(repeat(first|(with_reducible exact Fr.refl _)|(with_reducible apply Fr.drew)|(with_reducible apply Fr.alloc)))).mono fun _ _ h=>h.elim) f9;have hb:w9.heap[lb]? =_:=Fr.blk f0 (fun e=>own lb e rfl) HL.out;refine⟨g9,kc9,Z ⟨?_,(f0.mono fun _ _ h=> .inr h).setIn _ (.inl rfl),aQ hr9 ((Fr.refl w9).setIn (S:=(· =lb)) (p:=⟨lb,5,none⟩) _ rfl) ?_,?_⟩⟩
  ·unfold LBlk;rw[ag hb];rfl
  ·intro g' hg' e;have:=World.ownsRow.lt hr9 g' hg';omega
  ·rcases hg9 with h|h
   ·exact .inl h
   ·exact .inr (Nat.le_trans (Fr.size (show Keep w _ from by(repeat(first|(with_reducible exact Fr.refl _)|(with_reducible apply Fr.drew)|(with_reducible apply Fr.alloc))))) h)
 case rest=>
  obtain⟨g,kc,HX⟩:=hcut;clear hyS hy9 hy0 y0 b c0 c1 c4 c5 f5 n5;have hown2:∀k,(Value.slice ta tn tc).ownBlock=some k→(Value.slice ia m ic).ownBlock≠some k:=fun k hk e=>HN k e hk
  have hig:(Value.slice ia m ic).ownBlock≠some g:=by
   intro e;rcases HX.2.2.2 with h|h
   ·exact hown2 g h e
   ·have:=World.ownsRow.lt HI g e;omega
  have HI2:=Z (aQ HI HX.2.1 (fun g' hg' e=>by
   rcases e with e|e
   ·have:=World.ownsRow.lt HI g' hg';omega
   ·exact hown2 g' e hg'))
  have HOW:=Z hown2;have HIG:=Z hig;clear hown2 hig;go_wp2_with fail;refine(vM lb s hs a n m ln bg how ia ic _ false bk xs wc HX.1 hn ⟨h2,h3⟩ HI2 (by omega)).mono ?_;rintro e w2 ⟨rfl,F2,ln2,bg2,g2,kc2,xs2,L2,hl0,hl1,R2,hg2⟩;have FL:=Z F2;have HL2:=Z L2;have HR2:=Z R2;have HG2:=Z hg2;obtain⟨b,-,-,-,-,c4,c5,-,-,-,-,-,-,-⟩:=L2.facts;clear F2 L2 R2 hg2;have hz1:IntKind.i64.wrap (((tn+1:Nat):Int) -1)=(tn:Int):=by rw[show((tn+1:Nat):Int) -1=(tn:Int) from by omega];exact IntWalk.i64_in _ (by omega)
  have hz2:IntKind.i64.wrap ((tn:Int)+1-1)=(tn:Int):=by rw[show(tn:Int)+1-1=(tn:Int) from by omega];exact IntWalk.i64_in _ (by omega)
  have hz3:(0:Int)≤(tn:Int):=by omega
  have hz4:(tn:Int) < (tn:Int)+1:=by omega
  go_wp2_with fail;go_quiet (fail);go_wp2_with fail;go_ret;have hk1:Keep w0 wc:=HK.andThen HX.2.1 (fun i hi e=>by
   rcases e with e|e
   ·omega
   ·have:=World.ownsRow.lt HT i e;omega)
  have hk2:Keep w0 w2:=hk1.andThen FL (fun i hi e=>by
   rcases e with e|e
   ·omega
   ·have:=World.ownsRow.lt HI i e;omega)
  have hgl:=World.ownsRow.lt HX.2.2.1 g rfl;refine⟨g,by rw[HTN.out];rfl,Fr.drewNf hk2 nq,hlow,ln2,bg2,_,kc,xs2,?_,hl0,by rw[Int.natCast_add];exact hl1,aQ HR2.out ((Fr.refl w2).drewNf nq) (fun _ _ h=>h),?_,?_⟩
  ·rw[qk,List.length_singleton,HTN.out];exact HL2.out
  ·rw[qk,List.length_singleton,HTN.out,cP];exact aQ (aQ HX.2.2.1 FL (fun g' hg' e=>by
    have hgg:g'=g:=(Option.some.inj hg').symm;subst hgg;rcases e with e|e
    ·omega
    ·exact HIG e)) ((Fr.refl w2).drewNf nq) (fun _ _ h=>h)
  ·intro e;have hgg:g2=g:=Option.some.inj e;subst hgg;rcases HG2 with h|h
   ·exact HIG h
   ·omega
theorem LM.upd{w0:World}{lb a a' m:Nat}{s:ByteArray}{how how':Int}{ts:List Tk}{w w':World}(h:LM w0 lb s a how ts m w)(f:Fr (· =lb) w w')
  (hb:∀ (ln bg:Int) (iv tv:Value),LBlk lb s a ln bg how iv tv w→0≤ln∧ln≤a+1→∃ln' bg':Int,LBlk lb s a' ln' bg' how' iv tv w'∧0≤ln'∧ln'≤a'+1):LM w0 lb s a' how' ts m w':=by
 obtain⟨k,l,ln,bg,iv,tv,xs,h1,h2,h3,h4,h5,h6⟩:=h;obtain⟨ln',bg',g1,g2,g3⟩:=hb ln bg iv tv h1 ⟨h2,h3⟩;refine⟨k.andThen f (fun i hi e=>by omega),l,ln',bg',iv,tv,xs,g1,g2,g3,aQ h4 f ?_,aQ h5 f ?_,h6⟩
 ·intro g hg e;have:=World.ownsRow.lt h4 g hg;omega
 ·intro g hg e;have:=World.ownsRow.lt h5 g hg;omega
theorem LM.kp{w0:World}{lb a m:Nat}{s:ByteArray}{how:Int}{ts:List Tk}{w w':World}(h:LM w0 lb s a how ts m w)(k:Keep w w'):LM w0 lb s a how ts m w':=by
 obtain⟨k0,l,ln,bg,iv,tv,xs,h1,h2,h3,h4,h5,h6⟩:=h;exact⟨k0.trans k,l,ln,bg,iv,tv,xs,h1.keep k,h2,h3,aQ h4 k (fun _ _ h=>h),aQ h5 k (fun _ _ h=>h),h6⟩
theorem bu{w0:World}{lb a m:Nat}{s:ByteArray}{how:Int}{ts:List Tk}{w:World}(h:LM w0 lb s a how ts m w)(x:Int):
  Calls prog 46 #[.pointer (some ⟨lb,0,none⟩),.int .i64 x] w fun e w'=>e= .returned (.tuple #[])∧LM w0 lb s a (if how=0 then x else how) ts m w':=by
 obtain⟨ln,bg,iv,tv,xs,h1,h2,h3,h4,h5,h6⟩:=h.st;refine Calls.mono (pT lb s a ln bg how x iv tv w h1) ?_;rintro e w' ⟨rfl,f,hb⟩;obtain⟨k,l,-⟩:=h;refine⟨rfl,k.andThen f (fun i hi e=>by omega),l,ln,bg,iv,tv,xs,hb,h2,h3,aQ h4 f ?_,aQ h5 f ?_,h6⟩
 ·intro g hg e;have:=World.ownsRow.lt h4 g hg;omega
 ·intro g hg e;have:=World.ownsRow.lt h5 g hg;omega
theorem uN{w0:World}{lb a m n:Nat}{s:ByteArray}(hs:s.size≤100000){how:Int}{ts:List Tk}{w:World}(h:LM w0 lb s a how ts m w)(bk:ByteArray)(cm:Bool)(hn:a+n≤s.size)(hm:m≤500000):
  Calls prog 40 #[.pointer (some ⟨lb,0,none⟩),.string bk,.bool cm,.int .i64 n] w fun e w'=>e= .returned (.tuple #[])∧LM w0 lb s (a+n) how ts (m+1) w':=by
 obtain⟨ln,bg,iv,tv,xs,h1,h2,h3,h4,h5,h6⟩:=h.st;obtain⟨ia,ic,rfl,hic⟩:=gf h4;refine Calls.mono (vM lb s hs a n m ln bg how ia ic tv cm bk xs w h1 hn ⟨h2,h3⟩ h4 (by omega)) ?_;rintro e w' ⟨rfl,f,ln',bg',g,kc,xs',g1,g2,g3,g4,g5⟩;obtain⟨k,l,-⟩:=h;refine⟨rfl,k.andThen f (fun i hi e=>?_),l,ln',bg',_,tv,xs',g1,g2,by rw[Int.natCast_add];exact g3,g4,aQ h5 f ?_,?_⟩
 ·rcases e with e|e
  ·omega
  ·have:=World.ownsRow.lt h4 i e;omega
 ·intro g' hg' e;have:=World.ownsRow.lt h5 g' hg';rcases e with e|e
  ·omega
  ·exact h6 g' e hg'
 ·intro g' hg' e;have hgg:g=g':=Option.some.inj hg';subst hgg;rcases g5 with g5|g5
  ·exact h6 g g5 e
  ·have:=World.ownsRow.lt h5 g e;omega
def q_(w0:World)(lb:Nat)(s:ByteArray)(a:Nat)(how:Int)(ts:List Tk)(m:Nat)(e:Ending)(w':World):Prop:=
 ∃ (t:ByteArray) (a':Nat),e= .returned (.string t)∧LM w0 lb s a' how ts m w'∧a≤a'∧a'≤s.size∧(∀ts,LR (tx s a') ts→LR (tx s a) ts)∧(a'<s.size→¬ (bz s a'=32∨bz s a'=9∨bz s a'=10∨bz s a'=13))
theorem tw{w0:World}{lb a m:Nat}{s:ByteArray}(hs:s.size≤100000){how:Int}{ts:List Tk}{w:World}(h:LM w0 lb s a how ts m w)(ha:a≤s.size):
  Calls prog 19 #[.pointer (some ⟨lb,0,none⟩)] w (q_ w0 lb s a how ts m):=by
 obtain⟨ln,bg,iv,tv,xs,h1,h2,h3,h4,h5,h6⟩:=h.st;refine Calls.mono (qV lb s hs a ln bg how iv tv w h1 ha ⟨h2,h3⟩) ?_;rintro e w' ⟨⟨t,rfl,-⟩,f,a',ln',bg',g1,g2,g3,g4,g5,g6,g7⟩;obtain⟨k,l,-⟩:=h;refine⟨t,a',rfl,⟨k.andThen f (fun i hi e=>by omega),l,ln',bg',iv,tv,xs,g1,g4,g5,aQ h4 f ?_,aQ h5 f ?_,h6⟩,g2,g3,g6,g7⟩
 ·intro g hg e;have:=World.ownsRow.lt h4 g hg;omega
 ·intro g hg e;have:=World.ownsRow.lt h5 g hg;omega
def sg(s:ByteArray)(i j:Nat):List Int:=(tx s i).take (j-i)
theorem ec(s:ByteArray)(i:Nat):(tx s i).length=s.size-i:=by
 unfold tx;rw[List.length_map,List.length_drop,qi];rfl
theorem kZ(s:ByteArray)(i n:Nat):(tx s i).drop n=tx s (i+n):=by
 unfold tx;rw[←List.map_drop,List.drop_drop]
theorem o6{s:ByteArray}{i j:Nat}(h:i≤j):tx s i=sg s i j++tx s j:=by
 unfold sg
 conv=>lhs;rw[←List.take_append_drop (j-i) (tx s i)]
 rw[kZ,show i+(j-i)=j from by omega]
theorem rk{s:ByteArray}{i k:Nat}(h:i+k<s.size):(tx s i)[k]? =some (bz s (i+k)):=by
 have h1:=kZ s i k;have h2:=aL (s:=s) (i:=i+k) h;rw[←List.head?_drop,h1,h2];rfl
theorem cJ{s:ByteArray}{i j:Nat}(hj:j≤s.size){x:Int}(h:x∈sg s i j):∃k,i≤k∧k<j∧x=bz s k:=by
 unfold sg at h;obtain⟨k,hk,e⟩:=List.mem_iff_getElem?.1 h |>.imp fun k hk=>(⟨List.getElem?_eq_some_iff.1 hk |>.1,hk⟩:_∧_)
 rw[List.length_take,ec] at hk;have hk2:k<j-i:=by omega
 rw[List.getElem?_take,if_pos hk2,rk (by omega)] at e;exact⟨i+k,by omega,by omega,(Option.some.inj e).symm⟩
theorem fU{s:ByteArray}{i:Nat}{x:Int}(h:(tx s i).head?=some x):i<s.size∧x=bz s i:=by
 by_cases hi:i<s.size
 ·rw[aL hi] at h;exact⟨hi,(Option.some.inj h).symm⟩
 ·have:tx s i=[]:=List.eq_nil_of_length_eq_zero (by rw[ec];omega);rw[this] at h;cases h
theorem wI{s:ByteArray}{i j:Nat}(hj:j≤s.size){u v:List Int}{x y:Int}(h:sg s i j=u++x::y::v):∃k,i≤k∧k+1<j∧bz s k=x∧bz s (k+1)=y:=by
 have hl:(sg s i j).length=u.length+2+v.length:=by rw[h];simp;omega
 have hl2:u.length+2≤j-i:=by
  unfold sg at hl;rw[List.length_take,ec] at hl;omega
 have g1:(sg s i j)[u.length]? =some x:=by rw[h];simp
 have g2:(sg s i j)[u.length+1]? =some y:=by rw[h];simp
 unfold sg at g1 g2;rw[List.getElem?_take,if_pos (by omega),rk (by omega)] at g1 g2;exact⟨i+u.length,by omega,by omega,Option.some.inj g1,by rw[show i+u.length+1=i+(u.length+1) from by omega];exact Option.some.inj g2⟩
theorem zg{s:ByteArray}{i:Nat}(h:i<s.size):sg s i (i+1)=[bz s i]:=by
 unfold sg;rw[aL h,show i+1-i=1 from by omega];rfl
structure Rest(s:ByteArray)(a:Nat)(r:ByteArray):Prop where
 eq:r.toList=s.toList.drop a
 le:a≤s.size
theorem Rest.size{s r:ByteArray}{a:Nat}(h:Rest s a r):r.size=s.size-a:=by
 have:=congrArg List.length h.eq;rw[List.length_drop,qi,qi] at this;exact this
theorem Rest.bz{s r:ByteArray}{a:Nat}(h:Rest s a r)(i:Nat):bz r i=bz s (a+i):=by
 unfold YtnclklfhjbkjhaaGreatDoor.bz;rw[h.eq,List.getD_eq_getElem?_getD,List.getD_eq_getElem?_getD,List.getElem?_drop]
theorem Rest.tx{s r:ByteArray}{a:Nat}(h:Rest s a r)(i:Nat):tx r i=tx s (a+i):=by
 unfold YtnclklfhjbkjhaaGreatDoor.tx;rw[h.eq,List.drop_drop]
theorem Rest.ext(s:ByteArray)(a:Nat)(h:a≤s.size):Rest s a (s.extract a s.size):=by
 refine⟨?_,h⟩;rw[qi,qi,ByteArray.data_extract,Array.toList_extract,List.extract_eq_take_drop];rw[List.take_of_length_le (by
  have:s.data.toList.length=s.size:=rfl;rw[List.length_drop,this];omega)]
end Go.Proofs.YtnclklfhjbkjhaaGreatDoor
