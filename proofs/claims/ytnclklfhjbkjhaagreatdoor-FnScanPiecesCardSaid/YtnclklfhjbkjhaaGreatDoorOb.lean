/- Part of the proof: O4 O5 O6. -/
import Derived.Test.YtnclklfhjbkjhaaGreatDoorOa
set_option maxRecDepth 1000000
set_option maxHeartbeats 40000000
set_option linter.unusedSimpArgs false
namespace Go.Proofs.YtnclklfhjbkjhaaGreatDoor
open Tryz
open Go.RowKit Go.Lib
theorem WG.keep{eb eo:Nat}{w w':World}(h:WG eb eo w)(k:Keep w w'):WG eb eo w' where
 sz:=Nat.le_trans h.sz k.size
 el:=Nat.lt_of_lt_of_le h.el k.size
 eof:=Keep.cell k h.eof
 ebl:=by
  obtain⟨cs,T,hb⟩:=h.ebl;exact⟨cs,T,Keep.blk k hb⟩
 tabs:=⟨fun c hc=>Keep.cell k (h.tabs.1 c hc),fun i hi=>⟨Keep.cell k (h.tabs.2 i hi).1,Keep.cell k (h.tabs.2 i hi).2⟩⟩
 sg:=h.sg.keep k
theorem zP(x V:Value):#[x] ++ ((Array.replicate 2 undef).setIfInBounds 0 V)=#[x,V,undef]:=by
 apply Array.ext';simp only[Array.toList_append,Array.toList_setIfInBounds,Array.toList_replicate];rfl
theorem ou(x:Addr)(w:World):
  CallsD prog 28 #[.pointer (some x)] .returning w fun e u' w'=>e= .returned (.tuple #[])∧u'= .returning∧w'=w:=by
 refine callsD_of_wpS func28 rfl fun c₀ cs hu=>?_
 apply wpS_seq;apply wpS_region;simp[wpOpsS,go_sem,recoverD,hu,ntmps28,Exit.thenS];refine kU fun Q2 hQ=>?_
 go_wp2_with fail;cases c₀
 simp_all [bodyPostS,results,results28]
theorem nk(caps:Array Value)(w:World)(R:World→World→Prop)(h:Calls prog 17 caps (w.alloc (.cells #[.bool false] 4)) fun e w'=>e= .returned (.tuple #[])∧R (w.alloc (.cells #[.bool false] 4)) w')
  (hk:∀w',R (w.alloc (.cells #[.bool false] 4)) w'→w'.heap[w.heap.size]? =some (.cells #[.bool false] 4 (0,0))):
  Calls prog 16 #[.func (.func 17) #[] caps] w fun e w'=>e= .returned (.bool false)∧∃w2,R (w.alloc (.cells #[.bool false] 4)) w2∧Fr (· =w.heap.size) w2 w':=by
 have hmf:∀ (fn:Fn) (first cap:Array Value) (w:World),(Instr.makeFunc fn first cap).run prog w= .ok (.func fn first cap) w:=fun _ _ _ _=>rfl
 have H:=Z h;have HK:=Z hk;clear h hk;go_enter_defers func16,ntmps16;go_wp2_with fail;refine H.mono ?_;rintro e w2 ⟨rfl,hR⟩;have hb:=HK w2 hR;have c0:w2.cell? ⟨w.heap.size,0,none⟩=some (.bool false):=ab hb 0;have cf:=ae hb 0;have cl:=af hb;have HR:=Z hR;have HB:=Z hb;clear hR hb;go_wp2_with fail;refine leaves_cons (f:=28) (args:=#[.pointer (some ⟨w.heap.size,0,none⟩)]) (by simp) (by simp[go_sem]) ?_;refine(ou _ _).mono ?_;rintro e u' w'' ⟨rfl,rfl,rfl⟩;have hb':=ag HB 0 (.bool false);have c1:(w2.setCell ⟨w.heap.size,0,none⟩ (.bool false)).cell? ⟨w.heap.size,0,none⟩=some (.bool false):=ab hb' 0;refine⟨.bool false,?_,rfl,w2,HR,(Fr.refl w2).setIn (S:=(· =w.heap.size)) _ rfl⟩;simp[results,results16,go_sem,c1]
def tM(R:List Int)(fin:Bool)(w:World)(e:Ending)(w':World):Prop:=
 ∃ (s:Sc) (fl:Bool) (t:ByteArray) (iv fv:Value) (is:List (ByteArray×Bool×Bool)) (es:List Ps),e= .returned (.agg #[.string t,iv,fv,.bool (fl&&fin),.bool false])∧bT R ⟨0,0⟩ lj=(s,fl)∧t.toList=s.name∧
  w'.ownsRow w.heap.size 57 3 iv is.length (is.flatMap dc)∧is.map (fun x=>(x.1.toList,x.2.1,x.2.2))=s.imports∧is.length≤500000∧
  es=(if fl&&fin then[] else s.errs)∧w'.ownsRow w.heap.size 43 3 fv es.length (es.flatMap jT)∧es.length≤500000∧Keep w w'
def z35:Array Value:=#[.string ⟨#[]⟩,.slice none 0 0,.slice none 0 0,.bool false,.bool false]
theorem jE{P:Program}{f:FuncId}{args:Array Value}{R:Ending→World→Prop}{w:World}(I:World→Prop)(h:I w)(k:∀x,I x→Calls P f args x R):Calls P f args w R:=k w h
structure At5(tx:ByteArray)(cv:Value)(fin:Bool)(w x:World):Prop where
 size:x.heap.size=w.heap.size+5
 keep:Keep w x
 b0:x.heap[w.heap.size]? =some (.cells #[.string tx] 9 (0,0))
 b1:x.heap[w.heap.size+1]? =some (.cells #[cv] 40 (0,0))
 b2:x.heap[w.heap.size+2]? =some (.cells #[.bool fin] 4 (0,0))
 b3:x.heap[w.heap.size+3]? =some (.cells z35 35 (0,0))
 b4:x.heap[w.heap.size+4]? =some (.cells z35 35 (0,0))
theorem fS(tx:ByteArray)(cv:Value)(fin:Bool)(w:World):At5 tx cv fin w (((((w.alloc (.cells #[.string tx] 9)).alloc (.cells #[cv] 40)).alloc (.cells #[.bool fin] 4)).alloc (.cells z35 35)).alloc (.cells z35 35)) where
 size:=by simp
 keep:=(((((Fr.refl w).alloc _).alloc _).alloc _).alloc _).alloc _
 b0:=Keep.blk (((((Fr.refl _).alloc _).alloc _).alloc _).alloc _) (ql w _)
 b1:=Keep.blk ((((Fr.refl _).alloc _).alloc _).alloc _) (by have h:=ql (w.alloc (.cells #[.string tx] 9)) (.cells #[cv] 40);rwa [World.size_alloc] at h)
 b2:=Keep.blk (((Fr.refl _).alloc _).alloc _) (by have h:=ql ((w.alloc (.cells #[.string tx] 9)).alloc (.cells #[cv] 40)) (.cells #[.bool fin] 4);rwa [World.size_alloc,World.size_alloc] at h)
 b3:=Keep.blk ((Fr.refl _).alloc _) (by have h:=ql (((w.alloc (.cells #[.string tx] 9)).alloc (.cells #[cv] 40)).alloc (.cells #[.bool fin] 4)) (.cells z35 35);rwa [World.size_alloc,World.size_alloc,World.size_alloc] at h)
 b4:=by have h:=ql ((((w.alloc (.cells #[.string tx] 9)).alloc (.cells #[cv] 40)).alloc (.cells #[.bool fin] 4)).alloc (.cells z35 35)) (.cells z35 35);rwa [World.size_alloc,World.size_alloc,World.size_alloc,World.size_alloc] at h
theorem fM(eb eo:Nat)(tx:ByteArray)(cv:Value)(fin:Bool)(w:World)(hg:WG eb eo w)(hc:CutsV w cv)
  (hs:tx.size≤100000) (h240:∀i,bt tx.toList i<240) (hbom:tx.toList.take 3≠[239,187,191]):
  Calls prog 12 #[.string tx,cv,.bool fin] w (tM (bj tx.toList) fin w):=by
 have hmf:∀ (fn:Fn) (first cap:Array Value) (w:World),(Instr.makeFunc fn first cap).run prog w= .ok (.func fn first cap) w:=fun _ _ _ _=>rfl
 have hcz:∃a n c,cv= .slice a n c:=by
  rcases hc with h|⟨cb,co,cl,cc,h,-⟩
  ·exact⟨_,_,_,h⟩
  ·exact⟨_,_,_,h⟩
 obtain⟨ca,cn,cc,rfl⟩:=hcz;have H:=Z (And.intro hg (And.intro hc (And.intro hs (And.intro h240 hbom))));clear hg hc hs h240 hbom;go_enter func12,ntmps12;go_wp2_with fail;refine jE (fun x=>Hid (At5 tx (.slice ca cn cc) fin w x)) (Z (fS tx (.slice ca cn cc) fin w)) ?_;intro x X;have kx:Keep w (x.alloc (.cells #[.bool false] 4)):=X.keep.alloc _;have kx':Keep x (x.alloc (.cells #[.bool false] 4)):=(Fr.refl x).alloc _;have hcx:CutsV (x.alloc (.cells #[.bool false] 4)) (.slice ca cn cc):=by
  rcases H.2.1 with h|⟨cb,co,cl,cc,h1,h2,h3,h4,h5⟩
  ·exact .inl h
  ·refine .inr ⟨cb,co,cl,cc,h1,h2,h3,Nat.lt_of_lt_of_le h4 kx.size,fun i hi=>?_⟩;obtain⟨z,hz⟩:=h5 i hi;exact⟨z,Keep.cell kx hz⟩
 refine(nk _ x (fun w1 w2=>oT (w.heap.size+4) (bj tx.toList) fin w1 w2) (mL eb eo w.heap.size (w.heap.size+1) (w.heap.size+2) (w.heap.size+4) tx (.slice ca cn cc) fin _ (H.1.keep kx) hcx (Keep.cell kx' (ab X.b0 0)) (Keep.cell kx' (ab X.b1 0)) (Keep.cell kx' (ab X.b2 0)) (Keep.blk kx' X.b4) H.2.2.1 H.2.2.2.1 H.2.2.2.2) ?_).mono ?_
 ·rintro w' ⟨s,fl,t,iv,fv,is,-,-,-,-,-,-,-,hf⟩;have hs:=X.size;exact Fr.blk hf (by intro e;have e':x.heap.size=w.heap.size+4:=e;omega) (ql x _)
 rintro e w3 ⟨rfl,w2,⟨s,fl,t,iv,fv,is,h1,h2,h3,h4,h5,h6,⟨es,h7,h8,h9⟩,h10⟩,hf⟩;obtain⟨ia,ic,hiv⟩:=aT h4;obtain⟨fa,fc,hfv⟩:=aT h8;subst hiv hfv;have hs:=X.size;have hO:=Fr.blk hf (show ¬ (w.heap.size+4=x.heap.size) by omega) h3;have hR:=Fr.blk hf (show ¬ (w.heap.size+3=x.heap.size) by omega) (Fr.blk h10 (show ¬ (w.heap.size+3=w.heap.size+4) by omega) (Keep.blk kx' X.b3));have y0:=ab hO 0;have r0:=ab hR 0;have f0:=ae hR 0;have y1:=ab hO 1;have r1:=ab hR 1;have f1:=ae hR 1;have y2:=ab hO 2;have r2:=ab hR 2;have f2:=ae hR 2;have y3:=ab hO 3;have r3:=ab hR 3;have f3:=ae hR 3;have y4:=ab hO 4;have r4:=ab hR 4;have f4:=ae hR 4;have lO:=af hO;have lR:=af hR;simp only[show ∀a b c d e:Value,(#[a,b,c,d,e]:Array Value)[0]? =some a from fun _ _ _ _ _=>rfl] at y0;simp only[z35,show ∀a b c d e:Value,(#[a,b,c,d,e]:Array Value)[0]? =some a from fun _ _ _ _ _=>rfl] at r0;simp only[show ∀a b c d e:Value,(#[a,b,c,d,e]:Array Value)[1]? =some b from fun _ _ _ _ _=>rfl] at y1;simp only[z35,show ∀a b c d e:Value,(#[a,b,c,d,e]:Array Value)[1]? =some b from fun _ _ _ _ _=>rfl] at r1;simp only[show ∀a b c d e:Value,(#[a,b,c,d,e]:Array Value)[2]? =some c from fun _ _ _ _ _=>rfl] at y2;simp only[z35,show ∀a b c d e:Value,(#[a,b,c,d,e]:Array Value)[2]? =some c from fun _ _ _ _ _=>rfl] at r2;simp only[show ∀a b c d e:Value,(#[a,b,c,d,e]:Array Value)[3]? =some d from fun _ _ _ _ _=>rfl] at y3;simp only[z35,show ∀a b c d e:Value,(#[a,b,c,d,e]:Array Value)[3]? =some d from fun _ _ _ _ _=>rfl] at r3;simp only[show ∀a b c d e:Value,(#[a,b,c,d,e]:Array Value)[4]? =some e from fun _ _ _ _ _=>rfl] at y4;simp only[z35,show ∀a b c d e:Value,(#[a,b,c,d,e]:Array Value)[4]? =some e from fun _ _ _ _ _=>rfl] at r4;obtain⟨bd,hbd⟩:∃bd,bd=(fl&&fin):=⟨_,rfl⟩;rw[←hbd] at y3;have HBD:=Z hbd;have HRB:=Z hR;have ks:Keep w w3:=(kx.andThen h10 (fun i hi e=>by have e':i=w.heap.size+4:=e;omega)).andThen hf (fun i hi e=>by have e':i=x.heap.size:=e;omega);have KS:=Z ks;have HI:=Z (aj h4 hf fun g hg e=>by have e':g=x.heap.size:=e;have:=(ar h4 hg).1;simp at this;omega);have HFV:=Z (aj h8 hf fun g hg e=>by have e':g=x.heap.size:=e;have:=(ar h8 hg).1;simp at this;omega);have HKX:=Z kx.size;have HH:=Z (And.intro h1 (And.intro h2 (And.intro h5 (And.intro h6 (And.intro h7 h9)))));clear hbd hR hO ks h1 h2 h3 h4 h5 h6 h7 h8 h9 h10 hf hs hcx kx kx';go_wp2_with fail;have hb9:(((((w3.setCell ⟨w.heap.size+3,0,none⟩ (.string t)).setCell ⟨w.heap.size+3,1,none⟩ (.slice ia is.length ic)).setCell ⟨w.heap.size+3,2,none⟩ (.slice fa es.length fc)).setCell ⟨w.heap.size+3,3,none⟩ (.bool bd)).setCell ⟨w.heap.size+3,4,none⟩ (.bool false)).heap[w.heap.size+3]? =some (.cells #[.string t,.slice ia is.length ic,.slice fa es.length fc,.bool bd,.bool false] 35 (0,0)):=(ag (ag (ag (ag (ag HRB 0 (.string t)) 1 (.slice ia is.length ic)) 2 (.slice fa es.length fc)) 3 (.bool bd)) 4 (.bool false)).trans rfl;have q0:=ab hb9 0;have q1:=ab hb9 1;have q2:=ab hb9 2;have q3:=ab hb9 3;have q4:=ab hb9 4;simp only[show ∀a b c d e:Value,(#[a,b,c,d,e]:Array Value)[0]? =some a from fun _ _ _ _ _=>rfl] at q0;simp only[show ∀a b c d e:Value,(#[a,b,c,d,e]:Array Value)[1]? =some b from fun _ _ _ _ _=>rfl] at q1;simp only[show ∀a b c d e:Value,(#[a,b,c,d,e]:Array Value)[2]? =some c from fun _ _ _ _ _=>rfl] at q2;simp only[show ∀a b c d e:Value,(#[a,b,c,d,e]:Array Value)[3]? =some d from fun _ _ _ _ _=>rfl] at q3;simp only[show ∀a b c d e:Value,(#[a,b,c,d,e]:Array Value)[4]? =some e from fun _ _ _ _ _=>rfl] at q4;have fz:Fr (· =w.heap.size+3) w3 (((((w3.setCell ⟨w.heap.size+3,0,none⟩ (.string t)).setCell ⟨w.heap.size+3,1,none⟩ (.slice ia is.length ic)).setCell ⟨w.heap.size+3,2,none⟩ (.slice fa es.length fc)).setCell ⟨w.heap.size+3,3,none⟩ (.bool bd)).setCell ⟨w.heap.size+3,4,none⟩ (.bool false)):=(((((Fr.refl w3).setIn (S:=(· =w.heap.size+3)) (p:=⟨w.heap.size+3,0,none⟩) (.string t) rfl).setIn (p:=⟨w.heap.size+3,1,none⟩) (.slice ia is.length ic) rfl).setIn (p:=⟨w.heap.size+3,2,none⟩) (.slice fa es.length fc) rfl).setIn (p:=⟨w.heap.size+3,3,none⟩) (.bool bd) rfl).setIn (p:=⟨w.heap.size+3,4,none⟩) (.bool false) rfl;refine qh (v:= .agg #[.string t,.slice ia is.length ic,.slice fa es.length fc,.bool bd,.bool false]) (by simp[results,results12,go_sem,q0,q1,q2,q3,q4]) rfl ?_;obtain⟨h1,h2,h5,h6,h7,h9⟩:=HH.out;refine⟨s,fl,t,_,_,is,es,by rw[HBD.out],h1,h2,bE (aj HI.out fz (fun g hg e=>?_)) HKX.out,h5,h6,h7,bE (aj HFV.out fz (fun g hg e=>?_)) HKX.out,h9,KS.andThen fz (fun i hi e=>?_)⟩
 ·have e':g=w.heap.size+3:=e;have h:=(ar HI hg).1;have hs:=X.size;rw[World.size_alloc] at h;omega
 ·have e':g=w.heap.size+3:=e;have h:=(ar HFV hg).1;have hs:=X.size;rw[World.size_alloc] at h;omega
 ·have e':i=w.heap.size+3:=e;omega
theorem kg(eb eo:Nat)(tx:ByteArray)(w:World)(hg:WG eb eo w)
  (hs:tx.size≤100000) (h240:∀i,bt tx.toList i<240) (hbom:tx.toList.take 3≠[239,187,191]):
  Calls prog 8 #[.string tx] w (tM (bj tx.toList) false w):=by
 have H:=Z (And.intro hg (And.intro hs (And.intro h240 hbom)));clear hg hs h240 hbom;go_enter func8,ntmps8;go_wp2_with fail;refine jE (fun x=>Hid (Keep w x∧x.heap[w.heap.size]? =some (.cells z35 35 (0,0))∧x.heap[w.heap.size+1]? =some (.cells #[.int .i64 (max (tx.size:Int) 1)] 3 (0,0))∧x.heap.size=w.heap.size+2)) (Z ⟨((Fr.refl w).alloc _).alloc _,Keep.blk ((Fr.refl _).alloc _) (ql w _),new2 w _ _,by simp⟩) ?_;intro x X;refine(fM eb eo tx _ false x (H.1.keep X.1) (.inr ⟨w.heap.size+1,0,1,1,rfl,Nat.le_refl _,by decide,by have:=X.2.2.2;omega,fun i hi=>?_⟩) H.2.1 H.2.2.1 H.2.2.2).mono ?_
 ·obtain rfl:i=0:=by omega
  exact⟨_,ab X.2.2.1 0⟩
 rintro e w3 ⟨s,fl,t,iv,fv,is,es,rfl,h1,h2,h4,h5,h6,h7,h8,h9,hk⟩;obtain⟨ia,ic,hiv⟩:=aT h4;obtain⟨fa,fc,hfv⟩:=aT h8;subst hiv hfv;have hs:=X.2.2.2;have hR:=Keep.blk hk X.2.1;have r0:=ab hR 0;have f0:=ae hR 0;have r1:=ab hR 1;have f1:=ae hR 1;have r2:=ab hR 2;have f2:=ae hR 2;have r3:=ab hR 3;have f3:=ae hR 3;have r4:=ab hR 4;have f4:=ae hR 4;have lR:=af hR;simp only[z35,show ∀a b c d e:Value,(#[a,b,c,d,e]:Array Value)[0]? =some a from fun _ _ _ _ _=>rfl] at r0;simp only[z35,show ∀a b c d e:Value,(#[a,b,c,d,e]:Array Value)[1]? =some b from fun _ _ _ _ _=>rfl] at r1;simp only[z35,show ∀a b c d e:Value,(#[a,b,c,d,e]:Array Value)[2]? =some c from fun _ _ _ _ _=>rfl] at r2;simp only[z35,show ∀a b c d e:Value,(#[a,b,c,d,e]:Array Value)[3]? =some d from fun _ _ _ _ _=>rfl] at r3;simp only[z35,show ∀a b c d e:Value,(#[a,b,c,d,e]:Array Value)[4]? =some e from fun _ _ _ _ _=>rfl] at r4;obtain⟨bd,hbd⟩:∃bd,bd=(fl&&false):=⟨_,rfl⟩;rw[←hbd];have HBD:=Z hbd;have HRB:=Z hR;have KS:=Z (X.1.trans hk);have HI:=Z h4;have HFV:=Z h8;have HH:=Z (And.intro h1 (And.intro h2 (And.intro h5 (And.intro h6 (And.intro h7 h9)))));clear hbd hR h1 h2 h4 h5 h6 h7 h8 h9 hk hs;go_wp2_with fail;have hb9:(((((w3.setCell ⟨w.heap.size,0,none⟩ (.string t)).setCell ⟨w.heap.size,1,none⟩ (.slice ia is.length ic)).setCell ⟨w.heap.size,2,none⟩ (.slice fa es.length fc)).setCell ⟨w.heap.size,3,none⟩ (.bool bd)).setCell ⟨w.heap.size,4,none⟩ (.bool false)).heap[w.heap.size]? =some (.cells #[.string t,.slice ia is.length ic,.slice fa es.length fc,.bool bd,.bool false] 35 (0,0)):=(ag (ag (ag (ag (ag HRB 0 (.string t)) 1 (.slice ia is.length ic)) 2 (.slice fa es.length fc)) 3 (.bool bd)) 4 (.bool false)).trans rfl;have q0:=ab hb9 0;have q1:=ab hb9 1;have q2:=ab hb9 2;have q3:=ab hb9 3;have q4:=ab hb9 4;simp only[show ∀a b c d e:Value,(#[a,b,c,d,e]:Array Value)[0]? =some a from fun _ _ _ _ _=>rfl] at q0;simp only[show ∀a b c d e:Value,(#[a,b,c,d,e]:Array Value)[1]? =some b from fun _ _ _ _ _=>rfl] at q1;simp only[show ∀a b c d e:Value,(#[a,b,c,d,e]:Array Value)[2]? =some c from fun _ _ _ _ _=>rfl] at q2;simp only[show ∀a b c d e:Value,(#[a,b,c,d,e]:Array Value)[3]? =some d from fun _ _ _ _ _=>rfl] at q3;simp only[show ∀a b c d e:Value,(#[a,b,c,d,e]:Array Value)[4]? =some e from fun _ _ _ _ _=>rfl] at q4;have fz:Fr (· =w.heap.size) w3 (((((w3.setCell ⟨w.heap.size,0,none⟩ (.string t)).setCell ⟨w.heap.size,1,none⟩ (.slice ia is.length ic)).setCell ⟨w.heap.size,2,none⟩ (.slice fa es.length fc)).setCell ⟨w.heap.size,3,none⟩ (.bool bd)).setCell ⟨w.heap.size,4,none⟩ (.bool false)):=(((((Fr.refl w3).setIn (S:=(· =w.heap.size)) (p:=⟨w.heap.size,0,none⟩) (.string t) rfl).setIn (p:=⟨w.heap.size,1,none⟩) (.slice ia is.length ic) rfl).setIn (p:=⟨w.heap.size,2,none⟩) (.slice fa es.length fc) rfl).setIn (p:=⟨w.heap.size,3,none⟩) (.bool bd) rfl).setIn (p:=⟨w.heap.size,4,none⟩) (.bool false) rfl;refine qh (v:= .agg #[.string t,.slice ia is.length ic,.slice fa es.length fc,.bool bd,.bool false]) (by simp[results,results8,go_sem,q0,q1,q2,q3,q4]) rfl ?_;obtain⟨h1,h2,h5,h6,h7,h9⟩:=HH.out;have hs:=X.2.2.2;refine⟨s,fl,t,_,_,is,es,by rw[HBD.out],h1,h2,bE (aj HI.out fz (fun g hg e=>?_)) (by omega),h5,h6,h7,bE (aj HFV.out fz (fun g hg e=>?_)) (by omega),h9,KS.andThen fz (fun i hi e=>?_)⟩
 ·have e':g=w.heap.size:=e;have h:=(ar HI hg).1;omega
 ·have e':g=w.heap.size:=e;have h:=(ar HFV hg).1;omega
 ·have e':i=w.heap.size:=e;omega
def zw(tx:ByteArray)(b:Bool):Prop:=b=false→tx.size≤20000∧tx.toList.take 3≠[239,187,191]
def y_(tx:ByteArray)(b:Bool):Prop:=b=false→∀i,bt tx.toList i<240
def nN(I:Bool→Prop)(w:World)(e:Ending)(w':World):Prop:=w'=w∧∃b,e= .returned (.bool b)∧I b
theorem ub(t:ByteArray)(m:Nat):(t.extract 0 m).toList=t.toList.take m:=eG t m
theorem gZ(s:ByteArray)(w:World):Calls prog 5 #[.string s] w (nN (zw s) w):=by
 go_enter func5,ntmps5;by_cases h1:s.size>20000
 ·have g1:(s.size:Int) >20000:=by omega
  go_wp2_with fail;exact qh (results_tmp results5 _ _ _) rfl ⟨rfl,_,rfl,fun h=>by cases h⟩
 ·have g1:¬ (s.size:Int) >20000:=by omega
  by_cases h2:s.size>2
  ·have g2:(s.size:Int) >2:=by omega
   go_wp2_with fail;refine qh (results_tmp results5 _ _ _) rfl ⟨rfl,_,rfl,fun h=>⟨by omega,fun e=>?_⟩⟩;rw[ub,e] at h;cases h
  ·have g2:¬ (s.size:Int) >2:=by omega
   go_wp2_with fail;refine qh (results_tmp results5 _ _ _) rfl ⟨rfl,_,rfl,fun h=>⟨by omega,fun e=>?_⟩⟩;have hl:=congrArg List.length e;rw[List.length_take,qi] at hl;have:s.data.toList.length=s.size:=rfl;simp at hl;omega
theorem uX(s:ByteArray)(w:World)(hs:s.size≤100000):Calls prog 11 #[.string s] w (nN (y_ s) w):=by
 go_enter func11,ntmps11;go_wp2_with fail;go_loopw [6] (fun u wr=>∃k:Nat,u= .int .i64 k∧wr=w∧Hid (k≤s.size∧∀i,i<k→bt s.toList i<240)) (fun u _=>s.size-br u)
 case atStart=>exact⟨0,rfl,rfl,Z ⟨Nat.zero_le _,fun i h=>absurd h (by omega)⟩⟩
 case round=>
  obtain⟨k,rfl,rfl,HR⟩:=hrel;by_cases hk:k<s.size
  ·have hkz:(k:Int) < (s.size:Int):=by omega
   have hb:bt s.toList k=(s[k]'hk).toNat:=by
    unfold bt;rw[List.getD_eq_getElem?_getD,List.getElem?_eq_getElem (by rw[qi];exact hk)];simp only[Option.getD_some,qi];rfl
   have HBT:=Z hb;clear hb;by_cases h2:((s[k]'hk).toNat:Int)≥240
   ·go_wp2_with fail;exact qh (results_tmp results11 _ _ _) rfl ⟨rfl,_,rfl,fun h=>by cases h⟩
   ·go_wp2_with fail;go_roundw
    case rel=>exact⟨k+1,by simp,trivial,Z ⟨hk,fun i hi=>by
      rcases Nat.lt_or_ge i k with h|h
      ·exact HR.2 i h
      ·obtain rfl:i=k:=by omega
       rw[HBT.out];omega⟩⟩
    case measure=>simp only[br];omega
  ·have hkz:¬ (k:Int) < (s.size:Int):=by omega
   go_wp2_with fail;refine qh (results_tmp results11 _ _ _) rfl ⟨rfl,_,rfl,fun _ i=>?_⟩;rcases Nat.lt_or_ge i k with h|h
   ·exact HR.2 i h
   ·unfold bt;rw[List.getD_eq_getElem?_getD,List.getElem?_eq_none (by rw[qi];show s.size≤i;omega)];decide
def tH(w:World)(e:Ending)(w':World):Prop:=e= .returned (.bool true)∧Keep w w'
theorem iT(v1 v2:Value)(is:List (ByteArray×Bool×Bool))(B1 B2:Nat)(w:World)(h1:w.ownsRow B1 57 3 v1 is.length (is.flatMap dc))(h2:w.ownsRow B2 57 3 v2 is.length (is.flatMap dc))(hn:is.length≤500000):
  Calls prog 10 #[v1,v2] w (tH w):=by
 obtain⟨a1,c1,rfl⟩:=aT h1;obtain⟨a2,c2,rfl⟩:=aT h2;have H1:=Z h1;have H2:=Z h2;clear h1 h2;go_enter func10,ntmps10;go_wp2_with fail;go_loopw [13] (fun u wr=>∃k:Nat,u= .int .i64 k∧Hid (Keep w wr∧k≤is.length)) (fun u _=>is.length-br u)
 case atStart=>exact⟨0,rfl,Z ⟨Fr.refl w,Nat.zero_le _⟩⟩
 case round=>
  obtain⟨k,rfl,HR⟩:=hrel;by_cases hk:k<is.length
  ·have hkz:(k:Int) < (is.length:Int):=by omega
   obtain⟨g1,rfl⟩:∃g,a1=some ⟨g,0,none⟩:=by
    rcases H1.2 with⟨-,h⟩|⟨g,cap,cur,h,-⟩
    ·omega
    ·cases h;exact⟨g,rfl⟩
   obtain⟨g2,rfl⟩:∃g,a2=some ⟨g,0,none⟩:=by
    rcases H2.2 with⟨-,h⟩|⟨g,cap,cur,h,-⟩
    ·omega
    ·cases h;exact⟨g,rfl⟩
   have hcell:∀ (B g c:Nat),w.ownsRow B 57 3 (.slice (some ⟨g,0,none⟩) is.length c) is.length (is.flatMap dc)→∀j,j<3→wr.cell? ⟨g,k*3+j,none⟩=(dc is[k])[j]? :=fun B g c hr j hj=>by
    obtain⟨v,e1,e2⟩:=wL (aj hr HR.1 (fun _ _ e=>e)) k hk j hj;rw[e2,←e1,sV dc (fun _=>rfl) is k hk j hj]
   have x0:wr.cell? ⟨g1,k*3,none⟩=some (.string is[k].1):=hcell B1 g1 c1 H1 0 (by decide);have x1:wr.cell? ⟨g1,k*3+1,none⟩=some (.bool is[k].2.1):=hcell B1 g1 c1 H1 1 (by decide);have x2:wr.cell? ⟨g1,k*3+2,none⟩=some (.bool is[k].2.2):=hcell B1 g1 c1 H1 2 (by decide);have y0:wr.cell? ⟨g2,k*3,none⟩=some (.string is[k].1):=hcell B2 g2 c2 H2 0 (by decide);have y1:wr.cell? ⟨g2,k*3+1,none⟩=some (.bool is[k].2.1):=hcell B2 g2 c2 H2 1 (by decide);have y2:wr.cell? ⟨g2,k*3+2,none⟩=some (.bool is[k].2.2):=hcell B2 g2 c2 H2 2 (by decide);obtain⟨it,hit⟩:∃it,it=is[k]:=⟨_,rfl⟩;rw[←hit] at x0 x1 x2 y0 y1 y2;obtain⟨s0,p0,q0⟩:=it;simp only at x0 x1 x2 y0 y1 y2;clear hit hcell;go_wp2_with fail;go_quiet (fail);go_wp2_with fail;exact⟨⟨k+1,by simp,Z ⟨HR.1.drewN _,hk⟩⟩,by simp only[br];omega⟩
  ·have hkz:¬ (k:Int) < (is.length:Int):=by omega
   go_wp2_with fail;exact qh (results_tmp results10 _ _ _) rfl ⟨rfl,HR.1⟩
end Go.Proofs.YtnclklfhjbkjhaaGreatDoor
