/- Part of the proof: I0. -/
import Derived.Test.YtnclklfhjbkjhaaGreatDoorHd
import Derived.Test.YtnclklfhjbkjhaaGreatDoorGa
import Derived.Test.YtnclklfhjbkjhaaGreatDoorAm
set_option maxRecDepth 1000000
set_option maxHeartbeats 40000000
set_option linter.unusedSimpArgs false
namespace Go.Proofs.YtnclklfhjbkjhaaGreatDoor
open Tryz
open Go.RowKit
def ParseOk(s:ByteArray)(B:Nat)(kv:Value)(w:World):Prop:=
 ∃ (c:PC) (ds:List TopD) (ks:List Nd) (x:Nd) (v:Value),LexOk s c.ts∧FSeg c 0 (c.ts.length-1) ds∧KOwn B w kv (ks++ [x])∧x.kind=39∧TKs w (B+1) v ks ds
def kR(s:ByteArray)(w:World)(e:Ending)(w':World):Prop:=
 ∃ (k f l n how:Int) (t:ByteArray) (ka ia ta:Option Addr) (kn kc m ic tn tc:Nat),e= .returned (.tuple #[.agg #[.int .i64 k,.int .i64 f,.int .i64 l,.string t,.int .u64 n,.slice ka kn kc],.slice ia m ic,.slice ta tn tc,.int .i64 how])∧Keep w w'∧
  (how=0→∃B,w.heap.size≤B∧ParseOk s B (.slice ka kn kc) w')
theorem o7{ts:List Tk}{i:Nat}(h:i<ts.length):tk ts i=ts[i]:=by
 unfold tk;rw[List.getD_eq_getElem?_getD,List.getElem?_eq_getElem h];rfl
theorem pX(ts:List Tk):∀ (i:Nat) (_h:i<ts.length) (j:Nat),j<5→(bv ts)[i*5+j]? =(tk ts i).cells[j]? :=by
 induction ts with
 |nil=>intro i h;simp at h
 |cons x r ih=>
  intro i h j hj;cases i with
  |zero=>
   simp only[bv,List.flatMap_cons];rw[List.getElem?_append_left (by simp[Tk.cells];omega)];simp[tk]
  |succ i=>
   have h':i<r.length:=by simpa using h
   have:=ih i h' j hj;simp only[bv,List.flatMap_cons] at*
   rw[List.getElem?_append_right (by simp[Tk.cells];omega)];rw[show(i+1) *5+j-x.cells.length=i*5+j from by simp[Tk.cells];omega,this];simp[tk]
theorem gJ{w:World}{B g tc:Nat}{ts:List Tk}(h:w.ownsRow B 48 5 (.slice (some ⟨g,0,none⟩) ts.length tc) ts.length (bv ts))(i:Nat)(hi:i<ts.length)(j:Nat)(u:Value)(hu:(tk ts i).cells[j]? =some u):w.cell? ⟨g,i*5+j,none⟩=some u:=by
 have hj:j<5:=by
  have:=(List.getElem?_eq_some_iff.1 hu).1;simpa[Tk.cells] using this
 have:=World.ownsRow.cells h (g:=g) rfl (i*5+j) u (by rw[pX ts i hi j hj,hu])
 rwa [cF] at this
def wO(bp bt cap:Nat)(s:ByteArray)(ts:List Tk)(h:LexOk s ts)(hl:ts.length≤200000)(hne:bt≠bp):PC where
 bp:=bp
 bt:=bt
 cap:=cap
 ts:=ts
 ne:=hne
 small:=by omega
 fin:=by
  obtain⟨us,t,rfl,ht,-⟩:=h.last;rw[o7 (by simp)];simpa using ht
 wf:=fun i hi=>by
  rw[o7 hi];exact(h.good _ (List.getElem_mem _)).1
 sz:=fun i=>by
  by_cases hi:i<ts.length
  ·rw[o7 hi];exact(h.good _ (List.getElem_mem _)).2
  ·unfold tk;rw[List.getD_eq_getElem?_getD,List.getElem?_eq_none (by omega)];exact⟨Nat.zero_le _,Nat.zero_le _⟩
theorem LexOk.mid{s:ByteArray}{ts:List Tk}(h:LexOk s ts):∀i,i+1<ts.length→(tk ts i).kind≠6:=by
 obtain⟨us,t,rfl,ht,hu⟩:=h.last;intro i hi;have hiu:i<us.length:=by simpa using hi
 rw[o7 (by simp;omega),List.getElem_append_left hiu];exact hu _ (List.getElem_mem _)
theorem LexOk.pos{s:ByteArray}{ts:List Tk}(h:LexOk s ts):0<ts.length:=by
 obtain⟨us,t,rfl,ht,hu⟩:=h.last;simp
theorem wM{tmps:Array Value}{w:World}{N H:Nat}{v0 v1 v2 v3 v4 v5 hv iv tv:Value}(hN:w.heap[N]? =some (.cells #[v0,v1,v2,v3,v4,v5] 26 (0,0)))(hH:w.heap[H]? =some (.cells #[hv] 3 (0,0)))
  (h2:tmps.getD 2 undef= .pointer (some ⟨N,0,none⟩)) (h3:tmps.getD 3 undef=iv) (h4:tmps.getD 4 undef=tv) (h5:tmps.getD 5 undef= .pointer (some ⟨H,0,none⟩)):
  (results Tryz.f6 tmps).run prog w= .ok (.tuple #[.agg #[v0,v1,v2,v3,v4,v5],iv,tv,hv]) w:=by
 obtain⟨r0,r1,r2,r3,r4,r5,-⟩:=c_ hN;have y0:w.cell? ⟨H,0,none⟩=some hv:=ab hH 0;have h2':tmps[2]?.getD undef= .pointer (some ⟨N,0,none⟩):=by simpa using h2
 have h3':tmps[3]?.getD undef=iv:=by simpa using h3
 have h4':tmps[4]?.getD undef=tv:=by simpa using h4
 have h5':tmps[5]?.getD undef= .pointer (some ⟨H,0,none⟩):=by simpa using h5
 simp[results,results6,h2',h3',h4',h5',go_sem,r0,r1,r2,r3,r4,r5,y0]
theorem ParseOk.kept{s:ByteArray}{B:Nat}{kv:Value}{w w':World}{S:Nat→Prop}(h:ParseOk s B kv w)(f:Fr S w w')(hs:∀k,S k→k<B):ParseOk s B kv w':=by
 obtain⟨c,ds,ks,x,v,h1,h2,h3,h4,h5⟩:=h;refine⟨c,ds,ks,x,v,h1,h2,h3.kept f (fun g hg e=>?_),h4,h5.kept f (fun g hg _ e=>?_)⟩
 ·have:=(h3.lt hg).1;have:=hs g e;omega
 ·have:=hs g e;omega
theorem oG{P:Program}{f:FuncId}{args:Array Value}{R:Ending→World→Prop}{w:World}(I:World→Prop)(h:I w)(k:∀x,I x→Calls P f args x R):Calls P f args w R:=k w h
theorem f_{w:World}{B e sz n:Nat}{a:Option Addr}{c:Nat}{xs:List Value}(h:w.ownsRow B e sz (.slice a n c) n xs)(hn:0<n):∃g,a=some ⟨g,0,none⟩∧B≤g∧g<w.heap.size:=by
 rcases h.2 with⟨h1,h2⟩|⟨g,cap,cur,h1,h2,h3,-⟩
 ·omega
 ·cases h1;exact⟨g,rfl,h2,af h3⟩
theorem qx{s:ByteArray}{ts:List Tk}{bp g tc:Nat}{w:World}(h:LexOk s ts)(hl:ts.length≤200000)(hne:g≠bp)(hb:w.heap[bp]? =some (.cells #[.slice (some ⟨g,0,none⟩) ts.length tc,.int .i64 0,.int .i64 0,.bool false] 51 (0,0))){B:Nat}(hr:w.ownsRow B 48 5 (.slice (some ⟨g,0,none⟩) ts.length tc) ts.length (bv ts)):PSt (wO bp g tc s ts h hl hne) 0 false w:=
 ⟨hb,fun i hi j u hu=>gJ hr i hi j u hu,h.pos⟩
theorem ku(s:ByteArray)(hs:s.size≤100000)(w:World)
  (hpu:∀ (d:ByteArray) (b:Nat) (w':World),Keep w w'→(b=8∨b=10∨b=16)→d.size≤100000→cz b d=true→Calls prog 107 #[.string d,.int .i64 b,.int .i64 64] w' (dO d b w'))
  (hpf:∀ (d:ByteArray) (w':World),Keep w w'→d.size≤100000→RealOk d→Calls prog 109 #[.string d,.int .i64 64] w' (gW w')):
  Calls prog 6 #[.string s] w (kR s w):=by
 have hmf:∀ (fn:Fn) (first cap:Array Value) (w:World),(Instr.makeFunc fn first cap).run prog w= .ok (.func fn first cap) w:=fun _ _ _ _=>rfl
 have HPU:=Z hpu;have HPF:=Z hpf;clear hpu hpf;go_enter_defers func6,ntmps6;go_wp2_with fail;have k2:Keep w ((w.alloc (.cells cr 26)).alloc (.cells #[.int .i64 0] 3)):=((Fr.refl w).alloc _).alloc _;have K2:=Z k2;clear k2;refine(uK s hs _ (fun d b w' k=>HPU.out d b w' (K2.trans k)) (fun d w' k=>HPF.out d w' (K2.trans k))).mono ?_;rintro e w2 ⟨ia,ta,m,ic,tc,how,ts,rfl,kk,htl,hrow,hok⟩;have KK:=Z kk;have HROW:=Z hrow;have HOK:=Z hok;have zn:w2.heap[w.heap.size]? =some (.cells cr 26 (0,0)):=kk.blk (Keep.blk ((Fr.refl _).alloc _) (ql w _));have zh:w2.heap[w.heap.size+1]? =some (.cells #[.int .i64 0] 3 (0,0)):=kk.blk (by have:=ql (w.alloc (.cells cr 26)) (.cells #[.int .i64 0] 3);rwa [World.size_alloc] at this);have ZN:=Z zn;have ZH:=Z zh;have h0:w2.cell? ⟨w.heap.size+1,0,none⟩=some (.int .i64 0):=ab zh 0;have hf:w2.frozen? ⟨w.heap.size+1,0,none⟩=false:=ae zh 0;have hl:=af zh;clear kk hrow hok zn zh;by_cases hh:how=0
 ·subst hh;have hok:=HOK.out rfl;obtain⟨g,rfl,hg1,hg2⟩:=f_ HROW.out hok.pos;have LOK:=Z hok;clear hok;have hgb:g≠w2.heap.size:=by omega
  have HGB:=Z hgb;have HG1:=Z hg1;go_wp2_with fail;refine oG (fun x=>Keep w x∧PSt (wO w2.heap.size g tc s ts LOK.out htl HGB.out) 0 false x∧x.cell? ⟨w2.heap.size+1,0,none⟩=some (.pointer (some ⟨w2.heap.size,0,none⟩))∧x.heap[w.heap.size]? =some (.cells cr 26 (0,0))∧x.heap[w.heap.size+1]? =some (.cells #[.int .i64 0] 3 (0,0))∧w2.heap.size+2≤x.heap.size) ?_ ?_
  ·have ks:Fr (· =w.heap.size+1) w2 (w2.setCell ⟨w.heap.size+1,0,none⟩ (.int .i64 0)):=(Fr.refl w2).setIn _ rfl;refine⟨((K2.trans KK.out).setNew (p:=⟨w.heap.size+1,0,none⟩) _ (Nat.le_succ _)).alloc _ |>.alloc _,?_,?_,?_,?_,?_⟩
   ·refine qx LOK.out htl HGB.out ?_ (aQ (aQ HROW.out ks (fun g' hg' e=>?_)) (((Fr.refl _).alloc _).alloc _) (fun _ _ h=>h))
    ·refine Keep.blk ((Fr.refl _).alloc _) ?_;have:=ql (w2.setCell ⟨w.heap.size+1,0,none⟩ (.int .i64 0)) (.cells #[.slice (some ⟨g,0,none⟩) ts.length tc,.int .i64 0,.int .i64 0,.bool false] 51)
     rwa [World.size_setCell] at this
    ·cases hg';have:g=w.heap.size+1:=e;have:=HG1.out;simp at this;omega
   ·have:=ql ((w2.setCell ⟨w.heap.size+1,0,none⟩ (.int .i64 0)).alloc (.cells #[.slice (some ⟨g,0,none⟩) ts.length tc,.int .i64 0,.int .i64 0,.bool false] 51)) (.cells #[.pointer (some ⟨w2.heap.size,0,none⟩)] 49);rw[World.size_alloc,World.size_setCell] at this;exact ab this 0
   ·exact Keep.blk (((Fr.refl _).alloc _).alloc _) (Fr.blk ks (by omega) ZN.out)
   ·exact Keep.blk (((Fr.refl _).alloc _).alloc _) (by rw[ag ZH.out];rfl)
   ·simp
  intro x hx;obtain⟨kx,px,cx,nx,hx',sx⟩:=hx;have KX:=Z kx;have NX:=Z nx;have HX:=Z hx';have CX:=Z cx;clear kx cx nx hx' h0 hf hl;refine(sY (wO w2.heap.size g tc s ts LOK.out htl HGB.out) x px LOK.mid).mono ?_;rintro e w5 hfp;rcases hfp with⟨f,l,t,n,ka,kn,kc,at',rfl,pe,fr,hres⟩|hpp
  ·have PE:=Z pe;have FR:=Z fr;have HRES:=Z hres;clear pe fr hres px;have n5:w5.heap[w.heap.size]? =some (.cells cr 26 (0,0)):=Fr.blk FR.out (show ¬ (w.heap.size=w2.heap.size) by have:=KK.size;simp at this;omega) NX.out;have N5:=Z n5;clear n5;go_wp2_with (refine aw N5.out rfl rfl rfl ?_;refine Hid.out ?_);refine Z ?_;refine mq (fun y=>Hid (Keep w y∧y.heap[w.heap.size]? =some (.cells #[.int .i64 1,.int .i64 f,.int .i64 l,.string t,.int .u64 n,.slice ka kn kc] 26 (0,0))∧y.heap[w.heap.size+1]? =some (.cells #[.int .i64 0] 3 (0,0))∧y.cell? ⟨w2.heap.size+1,0,none⟩=some (.pointer (some ⟨w2.heap.size,0,none⟩))∧y.cell? ⟨w2.heap.size,2,none⟩=some (.int .i64 0)∧w.heap.size≤x.heap.size∧ParseOk s x.heap.size (.slice ka kn kc) y)) (Z ?_) ?_
   ·have hk1:w.heap.size+2≤w2.heap.size:=by have:=KK.size;simp at this;omega
    have fr':Fr (· =w2.heap.size) x w5:=FR.out;have fs:Fr (· =w.heap.size) w5 (w5.setRow w.heap.size #[.int .i64 1,.int .i64 f,.int .i64 l,.string t,.int .u64 n,.slice ka kn kc]):=Fr.row _ _ _;have k5:Keep w w5:=KX.andThen fr' (fun i hi e=>by omega);refine⟨k5.andThen fs (fun i hi e=>by omega),setRow_heap _ _ _ _ _ _ N5.out,?_,?_,?_,KX.size,?_⟩
    ·exact Fr.blk fs (by omega) (Fr.blk fr' (by omega) HX.out)
    ·exact Fr.cell fs (by omega) (Fr.cell fr' (by omega) CX.out)
    ·exact Fr.cell fs (by omega) (ab (show w5.heap[w2.heap.size]? =_ from PE.out) 2)
    ·obtain⟨ds,ks,xx,v,g1,g2,g3,g4⟩:=HRES.out;refine⟨_,ds,ks,xx,v,LOK.out,g1,g2.kept fs (fun g' hg' e=>?_),g3,g4.kept fs (fun g' hg' _ e=>?_)⟩
     ·have:=(g2.lt hg').1;omega
     ·omega
   intro y HY;clear HRES PE FR N5 CX HX NX KX;obtain⟨r0,r1,r2,r3,r4,r5,g0,g1,g2,g3,g4,g5⟩:=c_ HY.2.1;have y1:y.cell? ⟨w.heap.size+1,0,none⟩=some (.int .i64 0):=ab HY.2.2.1 0;have yf:y.frozen? ⟨w.heap.size+1,0,none⟩=false:=ae HY.2.2.1 0;have y2:=HY.2.2.2.1;have y3:=HY.2.2.2.2.1;have yl:=af HY.2.2.1;have hk1:w.heap.size+2≤w2.heap.size:=by have:=KK.size;simp at this;omega
   have d1:¬w.heap.size=w2.heap.size:=by omega
   have d2:¬w2.heap.size=w.heap.size:=by omega
   have d3:¬w.heap.size=w2.heap.size+1:=by omega
   have d4:¬w2.heap.size+1=w.heap.size:=by omega
   have d5:¬w.heap.size+1=w2.heap.size:=by omega
   have d6:¬w2.heap.size=w.heap.size+1:=by omega
   go_wp2_with fail;go_region
   all_goals
    go_wp2_with fail;refine leaves_cons (f:=14) (args:=#[.pointer (some ⟨w2.heap.size+1,0,none⟩),.pointer (some ⟨w.heap.size,0,none⟩),.pointer (some ⟨w.heap.size+1,0,none⟩)]) (by simp) (by simp[go_sem]) ?_;refine(oF _ _ _ _).mono ?_;rintro e u' w'' ⟨rfl,rfl,rfl⟩;rw[lg HY.2.1];have fa:Fr (· =w.heap.size) y (y.setRow w.heap.size #[.int .i64 1,.int .i64 f,.int .i64 l,.string t,.int .u64 n,.slice ka kn kc]):=Fr.row _ _ _;have fb:Fr (· =w.heap.size+1) (y.setRow w.heap.size #[.int .i64 1,.int .i64 f,.int .i64 l,.string t,.int .u64 n,.slice ka kn kc]) ((y.setRow w.heap.size #[.int .i64 1,.int .i64 f,.int .i64 l,.string t,.int .u64 n,.slice ka kn kc]).setCell ⟨w.heap.size+1,0,none⟩ (.int .i64 0)).drew:=((Fr.refl _).setIn (S:=(· =w.heap.size+1)) _ rfl).drew;have hN':=Fr.blk fb (by omega) (setRow_heap y w.heap.size _ #[.int .i64 1,.int .i64 f,.int .i64 l,.string t,.int .u64 n,.slice ka kn kc] 26 (0,0) HY.2.1);have hH':((y.setRow w.heap.size #[.int .i64 1,.int .i64 f,.int .i64 l,.string t,.int .u64 n,.slice ka kn kc]).setCell ⟨w.heap.size+1,0,none⟩ (.int .i64 0)).drew.heap[w.heap.size+1]? =some (.cells #[.int .i64 0] 3 (0,0)):=by
     show((y.setRow w.heap.size #[.int .i64 1,.int .i64 f,.int .i64 l,.string t,.int .u64 n,.slice ka kn kc]).setCell ⟨w.heap.size+1,0,none⟩ (.int .i64 0)).heap[w.heap.size+1]? =_;rw[ag (Fr.blk fa (by omega) HY.2.2.1)];rfl
    refine⟨_,wM hN' hH' rfl rfl rfl rfl,?_⟩;have fab:Fr (fun k=>k=w.heap.size∨k=w.heap.size+1) y _:=(fa.mono fun _ _ h=>Or.inl h).trans (fb.mono fun _ _ h=>Or.inr h);refine⟨1,f,l,n,0,t,ka,ia,some ⟨g,0,none⟩,kn,kc,m,ic,ts.length,tc,rfl,HY.1.andThen fab (fun i hi e=>by omega),fun _=>⟨x.heap.size,HY.2.2.2.2.2.1,HY.2.2.2.2.2.2.kept fab (fun k hk=>?_)⟩⟩;have:=sx;omega
  ·obtain⟨ch,rfl,⟨rfl,a,b,d,how,hh0,hbp⟩,fr⟩:=hpp;have fr':Fr (· =w2.heap.size) x w5:=fr;have hk1:w.heap.size+2≤w2.heap.size:=by have:=KK.size;simp at this;omega
   refine leaves_cons (f:=14) (args:=#[.pointer (some ⟨w2.heap.size+1,0,none⟩),.pointer (some ⟨w.heap.size,0,none⟩),.pointer (some ⟨w.heap.size+1,0,none⟩)]) (by simp) (by simp[go_sem]) ?_;refine(oE (w2.heap.size+1) w.heap.size (w.heap.size+1) w2.heap.size a b d (.int .i64 0) cr how w5 (Fr.cell fr' (by omega) CX.out) hbp (Fr.blk fr' (by omega) NX.out) rfl (Fr.blk fr' (by omega) HX.out) (by omega)).mono ?_;rintro e u' w'' ⟨rfl,rfl,hn,hh,hf⟩;refine⟨_,wM hn hh rfl rfl rfl rfl,?_⟩;exact⟨0,0,0,0,how,⟨#[]⟩,none,ia,some ⟨g,0,none⟩,0,0,m,ic,ts.length,tc,rfl,(KX.andThen fr' (fun i hi e=>by omega)).andThen hf (fun i hi e=>by omega),fun e=>absurd e hh0⟩
 ·have qh:(how !=0)=true:=by simpa using hh
  have HH:=Z hh;clear hh;go_wp2_with fail;refine aG (fun x=>Hid (Fr (· =w.heap.size+1) w2 x∧x.heap[w.heap.size+1]? =some (.cells #[.int .i64 how] 3 (0,0)))) (Z ⟨(Fr.refl w2).setIn _ rfl,by rw[ag ZH.out];rfl⟩) ?_;intro x X;clear h0 hf hl;have hk1:w.heap.size+2≤w2.heap.size:=by have:=KK.size;simp at this;omega
  go_loopw [19] (fun u wr=>∃ (k:Nat) (how':Int),u= .int .i64 k∧Hid (Fr (· =w.heap.size+1) w2 wr∧wr.heap[w.heap.size+1]? =some (.cells #[.int .i64 how'] 3 (0,0))∧how'≠0∧k≤ts.length)) (fun u _=>ts.length-br u)
  case atStart=>exact⟨0,how,rfl,Z ⟨X.1,X.2,HH.out,Nat.zero_le _⟩⟩
  case round=>
   obtain⟨k,how',rfl,HR⟩:=hrel;have hk0:(0:Int)≤(k:Int):=by omega
   have y0:wr.cell? ⟨w.heap.size+1,0,none⟩=some (.int .i64 how'):=ab HR.2.1 0;have yf:wr.frozen? ⟨w.heap.size+1,0,none⟩=false:=ae HR.2.1 0;have yl:=af HR.2.1;by_cases hk:k<ts.length
   ·have hkz:(k:Int) < (ts.length:Int):=by omega
    obtain⟨g,rfl,hg1,hg2⟩:=f_ HROW.out (show 0<ts.length by omega);have hrow:=aQ HROW.out HR.1 (fun g' hg' e=>by
     cases hg';have e':g=w.heap.size+1:=e
     first|omega|(simp at hg1;omega))
    have c0:=gJ hrow k hk 0 _ rfl;have c1:=gJ hrow k hk 1 _ rfl;have c2:=gJ hrow k hk 2 _ rfl;have c3:=gJ hrow k hk 3 _ rfl;have c4:=gJ hrow k hk 4 _ rfl;simp only[Nat.add_zero] at c0;obtain⟨kind,raw,val,num,item⟩:=tk ts k;clear hrow hg1 hg2;go_wp2_with fail
    all_goals
     go_roundw
     case rel=>first
      |exact⟨k+1,how',by simp,Z ⟨HR.1.trans ((Fr.refl wr).alloc _),Keep.blk ((Fr.refl wr).alloc _) HR.2.1,HR.2.2.1,hk⟩⟩
      |exact⟨k+1,2,by simp,Z ⟨(HR.1.setIn (p:=⟨w.heap.size+1,0,none⟩) _ rfl).alloc _,Keep.blk ((Fr.refl _).alloc _) (by rw[ag HR.2.1];rfl),by decide,hk⟩⟩
     case measure=>simp only[br];omega
   ·have hkz:¬ (k:Int) < (ts.length:Int):=by omega
    have zn:wr.heap[w.heap.size]? =some (.cells cr 26 (0,0)):=Fr.blk HR.1 (by omega) ZN.out;have ZN':=Z zn;obtain⟨r0,r1,r2,r3,r4,r5,g0,g1,g2,g3,g4,g5⟩:=c_ zn;have zl:=af zn;clear zn;go_wp2_with fail;go_region
    all_goals
     go_wp2_with fail;rw[lg ZN'.out];have fa:Fr (· =w.heap.size) wr (wr.setRow w.heap.size cr):=Fr.row _ _ _;have fb:Fr (· =w.heap.size+1) (wr.setRow w.heap.size cr) ((wr.setRow w.heap.size cr).setCell ⟨w.heap.size+1,0,none⟩ (.int .i64 how')).drew:=((Fr.refl _).setIn (S:=(· =w.heap.size+1)) _ rfl).drew;have hN':=Fr.blk fb (by omega) (setRow_heap wr w.heap.size _ cr 26 (0,0) ZN'.out);have hH':((wr.setRow w.heap.size cr).setCell ⟨w.heap.size+1,0,none⟩ (.int .i64 how')).drew.heap[w.heap.size+1]? =some (.cells #[.int .i64 how'] 3 (0,0)):=by
      show((wr.setRow w.heap.size cr).setCell ⟨w.heap.size+1,0,none⟩ (.int .i64 how')).heap[w.heap.size+1]? =_;rw[ag (Fr.blk fa (by omega) HR.2.1)];rfl
     have fab:Fr (fun k=>k=w.heap.size∨k=w.heap.size+1) w2 _:=(HR.1.mono fun _ _ h=>Or.inr h).trans ((fa.mono fun _ _ h=>Or.inl h).trans (fb.mono fun _ _ h=>Or.inr h));exact⟨_,wM hN' hH' rfl rfl rfl rfl,0,0,0,0,how',⟨#[]⟩,none,ia,ta,0,0,m,ic,ts.length,tc,rfl,(K2.trans KK.out).andThen fab (fun i hi e=>by omega),fun e=>absurd e HR.2.2.1⟩
end Go.Proofs.YtnclklfhjbkjhaaGreatDoor
