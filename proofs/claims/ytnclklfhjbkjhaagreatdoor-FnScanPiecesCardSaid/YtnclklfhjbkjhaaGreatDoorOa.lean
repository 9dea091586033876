/- Part of the proof: O1 O2 O3. -/
import Derived.Test.YtnclklfhjbkjhaaGreatDoorNd
set_option maxRecDepth 1000000
set_option maxHeartbeats 40000000
set_option linter.unusedSimpArgs false
namespace Go.Proofs.YtnclklfhjbkjhaaGreatDoor
open Tryz
open Go.RowKit Go.Lib
theorem lP:(prog.info? 57).map (fun i=>(i.zero,i.size,i.bytes))=some (some (.agg #[.string ⟨#[]⟩,.bool false,.bool false]),3,24):=by kernel_rfl
theorem w_:(prog.info? 43).map (fun i=>(i.zero,i.size,i.bytes))=some (some (.agg #[.int .i64 0,.int .i64 0,.int .i64 0]),3,24):=by kernel_rfl
noncomputable def vg(n:Nat):Code:=(Tryz.f17.body.bind (bx n)).getD .skip
def ow(u:Nat→Value):Act:=⟨#[
 u 0,u 1,u 2,u 3,u 4,u 5,u 6,u 7,u 8,u 9,u 10,u 11,u 12,u 13,u 14,u 15,
 u 16,u 17,u 18,u 19,u 20,u 21,u 22,u 23,u 24,u 25,u 26,u 27,u 28,u 29,u 30,u 31,
 u 32,u 33,u 34,u 35,u 36,u 37,u 38,u 39,u 40,u 41,u 42,u 43,u 44,u 45,u 46,u 47,
 u 48,u 49,u 50,u 51,u 52,u 53,u 54,u 55,u 56,u 57,u 58,u 59,u 60,u 61,u 62,u 63,
 u 64,u 65,u 66,u 67,u 68,u 69,u 70,u 71,u 72,u 73,u 74,u 75,u 76,u 77,u 78],[]⟩
theorem uU(u:Nat→Value):ow u=⟨((List.range 79).map u).toArray,[]⟩:=by kernel_rfl
def Fr17(P:(Nat→Value)→Prop)(a:Act):Prop:=∃u,P u∧a=ow u
theorem Fr17.mk{P:(Nat→Value)→Prop}{a:Act}(hs:a.tmps.size=79)(hd:a.defers=[])(h:P fun i=>a.tmps.getD i Go.undef):Fr17 P a:=⟨_,h,by rw[uU];exact jK hs hd⟩
def gX(ob:Nat)(t:ByteArray)(iv fv:Value)(bad:Bool)(w:World):Prop:=w.heap[ob]? =some (.cells #[.string t,iv,fv,.bool bad,.bool false] 35 (0,0))
theorem wL{w:World}{B g n c:Nat}{e:TypeId}{x:List Value}(h:w.ownsRow B e 3 (.slice (some ⟨g,0,none⟩) n c) n x)(j:Nat)(hj:j<n)(k:Nat)(hk:k<3):∃v,x[j*3+k]? =some v∧w.cell? ⟨g,j*3+k,none⟩=some v:=by
 rcases h.2 with⟨h,-⟩|⟨g',cap',cur,h1,h2,h3,h4,h5,h6,h7⟩
 ·cases h
 ·cases h1;have hl:=h.1;have hlt:j*3+k<x.length:=by omega
  refine⟨x[j*3+k],List.getElem?_eq_getElem hlt,?_⟩;rw[ab h3];have:(cur.toList.take (n*3))[j*3+k]? =some x[j*3+k]:=by rw[h7];exact List.getElem?_eq_getElem hlt
  rw[List.getElem?_take] at this;split at this
  ·simpa using this
  ·cases this
theorem sV{α:Type}(f:α→List Value)(hf:∀a,(f a).length=3):∀ (l:List α) (j:Nat) (hj:j<l.length) (k:Nat),k<3→(l.flatMap f)[j*3+k]? =(f l[j])[k]? :=by
 intro l
 induction l with
 |nil=>intro j hj;simp at hj
 |cons a r ih=>
  intro j hj k hk;rw[List.flatMap_cons];cases j with
  |zero=>
   rw[List.getElem?_append_left (by rw[hf];omega)];simp
  |succ j=>
   rw[List.getElem?_append_right (by rw[hf];omega),hf,show(j+1) *3+k-3=j*3+k from by omega];exact ih j (by simpa using hj) k hk
theorem j8{α:Type}(f:α→List Value)(l:List α)(j:Nat)(hj:j<l.length):(l.take (j+1)).flatMap f=(l.take j).flatMap f++f l[j]:=by
 rw[List.take_succ_eq_append_getElem hj,List.flatMap_append];simp
theorem rY(w0:World)(ob:Nat)(t:ByteArray)(is:List (ByteArray×Bool×Bool))(Bs:Nat)(sv:Value)(a:Act)(Q:Exit→Act→World→Prop)(x4 x5:Value)(P:(Nat→Value)→Prop)(hP:∀u,P u→u 3= .pointer (some ⟨ob,0,none⟩)∧u 27=sv∧u 28= .int .i64 is.length∧u 29= .int .i64 0∧u 4=x4∧u 5=x5)
  (hF:Fr17 P a) (hB:gX ob t (.slice none 0 0) (.slice none 0 0) false w0) (hr:w0.ownsRow Bs 70 3 sv is.length (is.flatMap dc)) (ho:∀g,sv.ownBlock=some g→g≠ob) (hn:is.length≤1000000)
  (hQ:∀a' wx iv,Fr17 (fun u=>u 3= .pointer (some ⟨ob,0,none⟩)∧u 4=x4∧u 5=x5) a'→gX ob t iv (.slice none 0 0) false wx→wx.ownsRow w0.heap.size 57 3 iv is.length (is.flatMap dc)→Fr (· =ob) w0 wx→Q .normal a' wx):
  (vg 0).wp prog Q a w0:=by
 suffices hmain:(vg 0).wp prog (Exit.then (fun a' wx=>∃iv,Fr17 (fun u=>u 3= .pointer (some ⟨ob,0,none⟩)∧u 4=x4∧u 5=x5) a'∧gX ob t iv (.slice none 0 0) false wx∧wx.ownsRow w0.heap.size 57 3 iv is.length (is.flatMap dc)∧Fr (· =ob) w0 wx) zz) a w0 from wp_mono hmain fun e a' wx hh=>by
  cases e<;>first|exact(let⟨iv,h1,h2,h3,h4⟩:=hh;hQ _ _ iv h1 h2 h3 h4)|exact False.elim hh
 clear hQ;obtain⟨u,hu,rfl⟩:=hF;obtain⟨h3,h27,h28,h29,h4,h5⟩:=hP u hu;unfold ow;rw[h3,h27,h28,h29,h4,h5];clear h3 h27 h28 h29 h4 h5 hP hu;have HB:=Z hB;have HR:=Z hr;have HO:=Z ho;clear hB hr ho
 conv=>arg 2;whnf
 go_wp2_with fail;refine wp_loop_ghost_k (fun k a' wx=>∃ (j:Nat) (iv:Value),k=is.length-j∧j≤is.length∧Fr17 (fun u=>u 3= .pointer (some ⟨ob,0,none⟩)∧u 27=sv∧u 28= .int .i64 is.length∧u 29= .int .i64 j∧u 4=x4∧u 5=x5) a'∧gX ob t iv (.slice none 0 0) false wx∧wx.ownsRow w0.heap.size 57 3 iv j ((is.take j).flatMap dc)∧Fr (· =ob) w0 wx) is.length ?_ ?_
 ·exact⟨0,_,rfl,Nat.zero_le _,Fr17.mk rfl rfl ⟨rfl,rfl,rfl,rfl,rfl,rfl⟩,HB.out,⟨by simp,.inl ⟨rfl,rfl⟩⟩,Fr.refl _⟩
 ·rintro gk a' wr ⟨j,iv,rfl,hj,⟨u,⟨h3,h27,h28,h29,h4,h5⟩,rfl⟩,hb,hr,hf⟩ J K hJ hK;have HBr:=Z hb;have HRr:=Z hr;have HFr:=Z hf;unfold ow;rw[h3,h27,h28,h29,h4,h5];clear h3 h27 h28 h29 h4 h5;by_cases hlt:j<is.length
  ·obtain⟨g,c,hsv⟩:∃g c,sv= .slice (some ⟨g,0,none⟩) is.length c:=by
    rcases HR.2 with⟨-,h⟩|⟨g,cap,cur,h,-⟩
    ·omega
    ·exact⟨g,cap,h⟩
   subst hsv;have hgo:=HO g rfl;have hrow:=aj HR hf fun g' hg' e=>by
    have e':g'=ob:=e;exact HO g' hg' e'
   have hcell:∀k,k<3→wr.cell? ⟨g,j*3+k,none⟩=(dc is[j])[k]? :=fun k hk=>by
    obtain⟨v,h1,h2⟩:=wL hrow j hlt k hk;rw[h2,←h1,sV dc (fun _=>rfl) is j hlt k hk]
   have c0:wr.cell? ⟨g,j*3,none⟩=some (.string is[j].1):=hcell 0 (by decide);have c1:wr.cell? ⟨g,j*3+1,none⟩=some (.bool is[j].2.1):=hcell 1 (by decide);have c2:wr.cell? ⟨g,j*3+2,none⟩=some (.bool is[j].2.2):=hcell 2 (by decide);obtain⟨it,hit⟩:∃it,it=is[j]:=⟨_,rfl⟩;rw[←hit] at c0 c1 c2;obtain⟨s0,p0,q0⟩:=it;simp only at c0 c1 c2;have HIT:=Z hit;have hobl:ob<w0.heap.size:=af HB.out;have hB7:=Keep.blk ((Fr.refl wr).alloc (.cells #[.string s0,.bool p0,.bool q0] 70)) HBr.out;have y1:(wr.alloc (.cells #[.string s0,.bool p0,.bool q0] 70)).cell? ⟨ob,1,none⟩=some iv:=ab hB7 1;have k9:Keep wr ((wr.alloc (.cells #[.string s0,.bool p0,.bool q0] 70)).alloc (.cells #[.string s0,.bool p0,.bool q0] 57)):=((Fr.refl wr).alloc _).alloc _;have hB8:=Keep.blk k9 HBr.out;have hR8:=aj HRr k9 (fun _ _ e=>e);have hno:¬iv.ownBlock=some ob:=fun e=>by
    have:=(ar HRr e).1;omega
   have hBs:w0.heap.size≤((wr.alloc (.cells #[.string s0,.bool p0,.bool q0] 70)).alloc (.cells #[.string s0,.bool p0,.bool q0] 57)).heap.size:=Nat.le_trans HFr.size k9.size;have hn8:((wr.alloc (.cells #[.string s0,.bool p0,.bool q0] 70)).alloc (.cells #[.string s0,.bool p0,.bool q0] 57)).heap[wr.heap.size+1]? =some (.cells #[.string s0,.bool p0,.bool q0] 57 (0,0)):=by
    have h:=ql (wr.alloc (.cells #[.string s0,.bool p0,.bool q0] 70)) (.cells #[.string s0,.bool p0,.bool q0] 57)
    rwa [World.size_alloc] at h
   have HN8:=Z hn8;have HB8:=Z hB8;have HR8:=Z hR8;have HNO:=Z hno;have hj1:j≤1000000:=by omega
   have HBS:=Z hBs;clear hit hrow hcell hb hr hf hB7 hB8 hR8 hno k9 hBs hn8;go_wp2_with (refine appV 32 57 _ 3 24 underlying32 lP rfl (by decide) (by decide) (m:=j) HR8.out HBS.out hj1 (cs:=#[.string s0,.bool p0,.bool q0]) rfl (by simp[Value.oneCell']) HN8.out (by rfl) (by rfl) ?_;intro v' w' hv hr f hos;obtain⟨g9,c9,rfl,-⟩:=hv;have hb9:=f.blk HNO.out HB8.out;have c91:=ab hb9 1;have f91:=ae hb9 1;have l91:=af hb9;simp only[show ∀a b c d e:Value,(#[a,b,c,d,e]:Array Value)[1]? =some b from fun _ _ _ _ _=>rfl] at c91;have HB9:=Z hb9;have HR9:=Z hr;have HF9:=Z f;clear hr f hos hb9);have fs:Fr (· =ob) w' (w'.setCell ⟨ob,1,none⟩ (.slice (some ⟨g9,0,none⟩) (j+1) c9)):=(Fr.refl w').setIn (S:=(· =ob)) _ rfl;have f0:Fr (· =ob) w0 w':=(HFr.keep (((Fr.refl wr).alloc _).alloc _)).andThen HF9 fun i hi e=>by
    have:=(ar HRr e).1;omega
   refine Handed.intro (is.length- (j+1)) (by omega) (hJ _ _ _ ⟨j+1,.slice (some ⟨g9,0,none⟩) (j+1) c9,rfl,by omega,Fr17.mk rfl rfl ⟨rfl,rfl,rfl,by go_num,rfl,rfl⟩,?_,?_,f0.trans fs⟩)
   ·have h:=ag HB9 1 (.slice (some ⟨g9,0,none⟩) (j+1) c9);exact h
   ·rw[j8 dc is j hlt,←HIT.out];refine aj HR9 fs fun g' hg' e=>?_
    have e':g'=ob:=e;have:=(ar HR9 hg').1;omega
  ·obtain rfl:j=is.length:=by omega
   have hd:decide ((is.length:Int) < (is.length:Int))=false:=by simp
   clear hb hr hf;go_wp2_with fail;exact⟨iv,Fr17.mk rfl rfl ⟨rfl,rfl,rfl⟩,HBr,by have h:=HRr.out;rwa [List.take_length] at h,HFr⟩
def jT(e:Ps):List Value:=[.int .i64 e.ln,.int .i64 e.cl,.int .i64 0]
theorem new2(w:World)(o:Obj)(cs:Array Value){T:TypeId}:((w.alloc o).alloc (.cells cs T)).heap[w.heap.size+1]? =some (.cells cs T (0,0)):=by
 have h:=ql (w.alloc o) (.cells cs T)
 rwa [World.size_alloc] at h
theorem ja(w0:World)(fn:ByteArray)(ob:Nat)(t:ByteArray)(iv:Value)(bad:Bool)(ks:List Nat)(es:List Ps)(Bs:Nat)(sv:Value)(a:Act)(Q:Exit→Act→World→Prop)
  (hF:Fr17 (fun u=>u 3= .pointer (some ⟨ob,0,none⟩)∧u 58=sv∧u 59= .int .i64 ks.length∧u 60= .int .i64 0) a) (hB:gX ob t iv (.slice none 0 0) bad w0) (hr:w0.ownsRow Bs 75 1 sv ks.length (ks.map ce)) (ho:∀g,sv.ownBlock=some g→g≠ob) (hn:ks.length≤1000000) (hl:ks.length=es.length)
  (hE:∀i (h:i<ks.length) (h':i<es.length),j5 ks[i] (bS fn es[i].ln es[i].cl) w0)
  (hQ:∀a' wx fv,a'.defers=[]→gX ob t iv fv bad wx→wx.ownsRow w0.heap.size 43 3 fv es.length (es.flatMap jT)→Fr (· =ob) w0 wx→Q .normal a' wx):
  (vg 2).wp prog Q a w0:=by
 suffices hmain:(vg 2).wp prog (Exit.then (fun a' wx=>∃fv,a'.defers=[]∧gX ob t iv fv bad wx∧wx.ownsRow w0.heap.size 43 3 fv es.length (es.flatMap jT)∧Fr (· =ob) w0 wx) zz) a w0 from wp_mono hmain fun e a' wx hh=>by
  cases e<;>first|exact(let⟨fv,h0,h1,h2,h3⟩:=hh;hQ _ _ fv h0 h1 h2 h3)|exact False.elim hh
 clear hQ;obtain⟨u,⟨h3,h58,h59,h60⟩,rfl⟩:=hF;unfold ow;rw[h3,h58,h59,h60];clear h3 h58 h59 h60;have HB:=Z hB;have HR:=Z hr;have HO:=Z ho;have HE:=Z hE;have HL:=Z hl;clear hB hr ho hE hl
 conv=>arg 2;whnf
 go_wp2_with fail;refine wp_loop_ghost_k (fun k a' wx=>∃ (j:Nat) (fv:Value),k=ks.length-j∧j≤ks.length∧Fr17 (fun u=>u 3= .pointer (some ⟨ob,0,none⟩)∧u 58=sv∧u 59= .int .i64 ks.length∧u 60= .int .i64 j) a'∧gX ob t iv fv bad wx∧wx.ownsRow w0.heap.size 43 3 fv j ((es.take j).flatMap jT)∧Fr (· =ob) w0 wx) ks.length ?_ ?_
 ·exact⟨0,_,rfl,Nat.zero_le _,Fr17.mk rfl rfl ⟨rfl,rfl,rfl,rfl⟩,HB.out,⟨by simp,.inl ⟨rfl,rfl⟩⟩,Fr.refl _⟩
 ·rintro gk a' wr ⟨j,fv,rfl,hj,⟨u,⟨h3,h58,h59,h60⟩,rfl⟩,hb,hr,hf⟩ J K hJ hK;have HBr:=Z hb;have HRr:=Z hr;have HFr:=Z hf;unfold ow;rw[h3,h58,h59,h60];clear h3 h58 h59 h60;by_cases hlt:j<ks.length
  ·obtain⟨g,c,hsv⟩:∃g c,sv= .slice (some ⟨g,0,none⟩) ks.length c:=by
    rcases HR.2 with⟨-,h⟩|⟨g,cap,cur,h,-⟩
    ·omega
    ·exact⟨g,cap,h⟩
   subst hsv;have hje:j<es.length:=by have:=HL.out;omega
   have hrow:=aj HR hf fun g' hg' e=>by
    have e':g'=ob:=e;exact HO g' hg' e'
   have c0:wr.cell? ⟨g,j,none⟩=some (ce ks[j]):=by
    rw[(bY hrow j (by simpa using hlt)).1];simp
   have hek:ks[j]≠ob:=fun e=>by
    obtain⟨v,h⟩:=HE j hlt hje;have h2:=HB.out;unfold gX at h2;rw[e,h2] at h;simp at h
   have hEr:j5 ks[j] (bS fn es[j].ln es[j].cl) wr:=by
    obtain⟨v,h⟩:=HE j hlt hje;exact⟨v,hf.blk (fun e=>hek e) h⟩
   obtain⟨k0,hk0⟩:∃k0,k0=ks[j]:=⟨_,rfl⟩;obtain⟨e0,he0⟩:∃e0,e0=es[j]:=⟨_,rfl⟩;rw[←hk0] at c0 hEr;rw[←he0] at hEr;obtain⟨l0,m0⟩:=e0;simp only at hEr;unfold ce at c0;have HER:=Z hEr;have HE0:=Z he0;have hm:=oj;have hna:=uA;have hobl:ob<w0.heap.size:=af HB.out;have hj1:j≤1000000:=by omega
   clear hk0 he0 hrow hb hr hf hEr hek;go_wp2_with first
    |(go_at_call 241;refine(ov k0 fn l0 m0 _ HER).mono ?_;rintro e w2 ⟨rfl,kk⟩;have hB7:=Keep.blk (kk.alloc (.cells #[.string fn,.int .i64 l0,.int .i64 m0,.int .i64 0] 77)) HBr.out;have y1:(w2.alloc (.cells #[.string fn,.int .i64 l0,.int .i64 m0,.int .i64 0] 77)).cell? ⟨ob,2,none⟩=some fv:=ab hB7 2;have KK:=Z kk;clear kk hB7)
    |(refine appV 33 43 _ 3 24 underlying33 w_ rfl (by decide) (by decide) (m:=j) (aj HRr.out ((KK.alloc (.cells #[.string fn,.int .i64 l0,.int .i64 m0,.int .i64 0] 77)).alloc (.cells #[.int .i64 l0,.int .i64 m0,.int .i64 0] 43)) (fun _ _ e=>e)) (Nat.le_trans HFr.size ((KK.alloc (.cells #[.string fn,.int .i64 l0,.int .i64 m0,.int .i64 0] 77)).alloc (.cells #[.int .i64 l0,.int .i64 m0,.int .i64 0] 43)).size) hj1 (cs:=#[.int .i64 l0,.int .i64 m0,.int .i64 0]) rfl (by simp[Value.oneCell']) (new2 w2 _ _) (by rfl) (by rfl) ?_;intro v' w' hv hr f hos;obtain⟨g9,c9,rfl,-⟩:=hv;have hb9:=f.blk (fun e=>by have:=(ar HRr.out e).1;omega) (Keep.blk ((KK.alloc (.cells #[.string fn,.int .i64 l0,.int .i64 m0,.int .i64 0] 77)).alloc (.cells #[.int .i64 l0,.int .i64 m0,.int .i64 0] 43)) HBr.out);have c91:=ab hb9 2;have f91:=ae hb9 2;have l91:=af hb9;simp only[show ∀a b c d e:Value,(#[a,b,c,d,e]:Array Value)[2]? =some c from fun _ _ _ _ _=>rfl] at c91;have HB9:=Z hb9;have HR9:=Z hr;have HF9:=Z f;clear hr f hos hb9)
   have fs:Fr (· =ob) w' (w'.setCell ⟨ob,2,none⟩ (.slice (some ⟨g9,0,none⟩) (j+1) c9)):=(Fr.refl w').setIn (S:=(· =ob)) _ rfl;have f0:Fr (· =ob) w0 w':=(HFr.keep ((KK.alloc _).alloc _)).andThen HF9 fun i hi e=>by
    have:=(ar HRr e).1;omega
   refine Handed.intro (ks.length- (j+1)) (by omega) (hJ _ _ _ ⟨j+1,.slice (some ⟨g9,0,none⟩) (j+1) c9,rfl,by omega,Fr17.mk rfl rfl ⟨rfl,rfl,rfl,by go_num⟩,?_,?_,f0.trans fs⟩)
   ·have h:=ag HB9 2 (.slice (some ⟨g9,0,none⟩) (j+1) c9);exact h
   ·rw[j8 jT es j hje,←HE0.out];refine aj HR9 fs fun g' hg' e=>?_
    have e':g'=ob:=e;have:=(ar HR9 hg').1;omega
  ·obtain rfl:j=ks.length:=by omega
   have hd:decide ((ks.length:Int) < (ks.length:Int))=false:=by simp
   clear hb hr hf;go_wp2_with fail;exact⟨fv,trivial,HBr.out,by have h:=HRr.out;rw[HL.out] at h;rwa [List.take_length] at h,HFr.out⟩
theorem bE{w:World}{B B' n sz:Nat}{e:TypeId}{v:Value}{xs:List Value}(h:w.ownsRow B e sz v n xs)(hb:B'≤B):w.ownsRow B' e sz v n xs:=by
 refine⟨h.1,?_⟩;rcases h.2 with h|⟨g,cap,cur,h1,h2,h3⟩
 ·exact .inl h
 ·exact .inr ⟨g,cap,cur,h1,Nat.le_trans hb h2,h3⟩
theorem aT{w:World}{B n sz:Nat}{e:TypeId}{v:Value}{xs:List Value}(h:w.ownsRow B e sz v n xs):∃a c,v= .slice a n c:=by
 rcases h.2 with⟨h,h0⟩|⟨g,cap,cur,h,-⟩
 ·exact⟨_,0,by rw[h,h0]⟩
 ·exact⟨_,cap,h⟩
structure WG(eb eo:Nat)(w:World):Prop where
 sz:24≤w.heap.size
 el:eb<w.heap.size
 eof:w.cell? ⟨0,0,none⟩=some (.iface 172 (.pointer (some ⟨eb,eo,none⟩)))
 ebl:∃cs T,w.heap[eb]? =some (.cells cs T (0,0))
 tabs:Utf8Tabs 7 8 w
 sg:SG w
def CutsV(w:World)(v:Value):Prop:=v= .slice none 0 0∨∃cb co cl cc,v= .slice (some ⟨cb,co,none⟩) cl cc∧cl≤cc∧cc≤maxLen∧cb<w.heap.size∧∀i,i<cl→∃z,w.cell? ⟨cb,co+i,none⟩=some (.int .i64 z)
def ul(eb eo:Nat)(w:World)(fin:Bool)(h:WG eb eo w):RC where
 bb:=w.heap.size+4
 kb:=w.heap.size+5
 pb:=w.heap.size
 eb:=eb
 eo:=eo
 fin:=fin
 n1:=by omega
 n2:=by omega
 n3:=by omega
 lo:=by have:=h.sz;omega
 el:=by have:=h.el;omega
def nu:ByteArray:=⟨#[120,46,112,114,111,116,111]⟩
def oT(ob:Nat)(R:List Int)(fin:Bool)(w w':World):Prop:=
 ∃ (s:Sc) (fl:Bool) (t:ByteArray) (iv fv:Value) (is:List (ByteArray×Bool×Bool)),bT R ⟨0,0⟩ lj=(s,fl)∧t.toList=s.name∧gX ob t iv fv (fl&&fin) w'∧
  w'.ownsRow w.heap.size 57 3 iv is.length (is.flatMap dc)∧is.map (fun x=>(x.1.toList,x.2.1,x.2.2))=s.imports∧is.length≤500000∧
  (∃es:List Ps,es=(if fl&&fin then[] else s.errs)∧w'.ownsRow w.heap.size 43 3 fv es.length (es.flatMap jT)∧es.length≤500000)∧Fr (· =ob) w w'
theorem wu(a:Addr)(w:World):(Instr.typeAssert (.iface 172 (.pointer (some a))) 63 72 true).run prog w= .ok (.tuple #[.slice none 0 0,.bool false]) w:=by kernel_rfl
theorem wv(w:World):(Instr.typeAssert .nilIface 63 72 true).run prog w= .ok (.tuple #[.slice none 0 0,.bool false]) w:=by kernel_rfl
theorem wt(a:Option Addr)(n c:Nat)(w:World):(Instr.typeAssert (.iface 72 (.slice a n c)) 63 72 true).run prog w= .ok (.tuple #[.slice a n c,.bool true]) w:=by kernel_rfl
theorem oa{ob B:Nat}{w w2 wx wy:World}{R:List Int}{fin fl bad:Bool}{s:Sc}{t:ByteArray}{iv fv:Value}{is:List (ByteArray×Bool×Bool)}{es:List Ps}(hsc:bT R ⟨0,0⟩ lj=(s,fl))(ht:t.toList=s.name)(hob:ob<w.heap.size)(hk:Keep w w2)(hx:Fr (· =ob) w2 wx)(hbad:bad=(fl&&fin))(hO:gX ob t iv fv bad wy)
  (hF:Fr (· =ob) (wx.setCell ⟨ob,3,none⟩ (.bool bad)) wy) (hRow:wx.ownsRow B 57 3 iv is.length (is.flatMap dc)) (hB:w.heap.size≤B) (his:is.map (fun x=>(x.1.toList,x.2.1,x.2.2))=s.imports) (hil:is.length≤500000)
  (hR:wy.ownsRow (wx.setCell ⟨ob,3,none⟩ (.bool bad)).heap.size 43 3 fv es.length (es.flatMap jT)) (hes:es=(if fl&&fin then[] else s.errs)) (hl:es.length≤500000):oT ob R fin w wy:=by
 have fs:Fr (· =ob) wx (wx.setCell ⟨ob,3,none⟩ (.bool bad)):=(Fr.refl wx).setIn (S:=(· =ob)) _ rfl;have f0:Fr (· =ob) w (wx.setCell ⟨ob,3,none⟩ (.bool bad)):=(Fr.keep (Fr.refl w) hk).trans (hx.trans fs);refine⟨s,fl,t,iv,fv,is,hsc,ht,hbad▸hO,bE (aj hRow (fs.trans hF) fun g hg e=>?_) hB,his,hil,⟨es,hes,bE hR f0.size,hl⟩,f0.trans hF⟩;have e':g=ob:=e;have:=(ar hRow hg).1;omega
theorem mL(eb eo tb cb bb ob:Nat)(tx:ByteArray)(cv:Value)(fin:Bool)(w:World)(hg:WG eb eo w)(hc:CutsV w cv)(h1:w.cell? ⟨tb,0,none⟩=some (.string tx))(h2:w.cell? ⟨cb,0,none⟩=some cv)(h3:w.cell? ⟨bb,0,none⟩=some (.bool fin))(ho:gX ob ⟨#[]⟩ (.slice none 0 0) (.slice none 0 0) false w)
  (hs:tx.size≤100000) (h240:∀i,bt tx.toList i<240) (hbom:tx.toList.take 3≠[239,187,191]):
  Calls prog 17 #[.pointer (some ⟨tb,0,none⟩),.pointer (some ⟨cb,0,none⟩),.pointer (some ⟨bb,0,none⟩),.pointer (some ⟨ob,0,none⟩)] w fun e w'=>e= .returned (.tuple #[])∧oT ob (bj tx.toList) fin w w':=by
 obtain⟨W,hW⟩:∃W,W=w.alloc (.cells #[.string tx,cv,.bool fin] 68):=⟨_,rfl⟩;have kW:Keep w W:=by rw[hW];exact(Fr.refl w).alloc _
 have hWs:W.heap.size=w.heap.size+1:=by rw[hW];simp
 have hobw:ob<w.heap.size:=af ho;have hp:PBlk (ul eb eo w fin hg) W tx cv:=by rw[hW];exact ql w _
 have hcv:CutsOk (ul eb eo w fin hg) W cv:=by
  rcases hc with h|⟨cb,co,cl,cc,h1,h2,h3,h4,h5⟩
  ·exact .inl h
  ·refine .inr ⟨cb,co,cl,cc,h1,h2,h3,?_,?_,?_,fun i hi=>?_⟩
   ·show cb<w.heap.size+4∧cb<w.heap.size;omega
   ·show cb≠w.heap.size+5;omega
   ·show cb≠w.heap.size;omega
   ·obtain⟨z,hz⟩:=h5 i hi;exact⟨z,Keep.cell kW hz⟩
 have hgl:Glob (ul eb eo w fin hg) W:=by
  obtain⟨cs,T,h⟩:=hg.ebl;exact⟨Keep.cell kW hg.eof,⟨cs,T,Keep.blk kW h⟩,⟨fun c hc=>Keep.cell kW (hg.tabs.1 c hc),fun i hi=>⟨Keep.cell kW (hg.tabs.2 i hi).1,Keep.cell kW (hg.tabs.2 i hi).2⟩⟩⟩
 have HSC:=Z (rC (ul eb eo w fin hg) tx cv W nu (by unfold nu;rw[qi];rfl) (by rw[hWs];rfl) (by rw[hWs];rfl) hp hcv hgl hs h240 hbom (hg.sg.keep kW));have HO:=Z ho;have HW:=Z hW;have HKW:=Z kW;have hcz:∃a n c,cv= .slice a n c:=by
  rcases hc with h|⟨cb,co,cl,cc,h,-⟩
  ·exact⟨_,_,_,h⟩
  ·exact⟨_,_,_,h⟩
 obtain⟨ca,cn,cc,rfl⟩:=hcz;clear hc hp hcv hgl ho hW kW hWs hs h240 hbom;go_enter func17,ntmps17;go_upto_block 0 with(go_at_call 18;rw[←HW.out];refine HSC.mono ?_;rintro e w2 ⟨s,fl,t,P,V,N,X,ev,hsc,htn,hrel,hrows,hfr,hsm,rfl,hev⟩;obtain⟨a4,c4,hv4⟩:=aT (hrows 4 (by decide));rw[hv4];have k2:Keep w w2:=HKW.fr.andThen hfr (fun i hi e=>by(have e':i=w.heap.size:=e);omega);have hb2:=Keep.blk (k2.alloc (.cells #[.string t,.slice a4 (N 4) c4] 61)) HO.out;have o0:=ab hb2 0;have f0:=ae hb2 0;have l0:=af hb2;simp only[show ∀a b c d e:Value,(#[a,b,c,d,e]:Array Value)[0]? =some a from fun _ _ _ _ _=>rfl] at o0;have HSCF:=Z hsc;have HTN:=Z htn;have HREL:=Z hrel;have HROWS:=Z hrows;have HFR:=Z hfr;have HSM:=Z hsm;have HEV:=Z hev;have HV4:=Z hv4;have HK2:=Z k2;have HB2:=Z hb2;clear hsc htn hrel hrows hfr hsm hev hv4 k2 hb2);have hB3:=ag HB2 0 (.string t);obtain⟨hn4,is,hX4,his⟩:=HREL.imps;have hlen:is.length=N 4:=by rw[hn4,←his,List.length_map]
 have fs:Fr (· =ob) (w2.alloc (.cells #[.string t,.slice a4 (N 4) c4] 61)) ((w2.alloc (.cells #[.string t,.slice a4 (N 4) c4] 61)).setCell ⟨ob,0,none⟩ (.string t)):=(Fr.refl _).setIn (S:=(· =ob)) _ rfl;have f23:Fr (· =ob) w2 ((w2.alloc (.cells #[.string t,.slice a4 (N 4) c4] 61)).setCell ⟨ob,0,none⟩ (.string t)):=(Fr.keep (Fr.refl w2) ((Fr.refl w2).alloc _)).trans fs;have hoff:∀i,i<5→∀g,(V i).ownBlock=some g→g≠ob:=fun i hi g hg=>by
  have h:=(ar (HROWS i hi) hg).1;have h':w.heap.size+4+1≤g:=h;omega
 have hr3:((w2.alloc (.cells #[.string t,.slice a4 (N 4) c4] 61)).setCell ⟨ob,0,none⟩ (.string t)).ownsRow (w.heap.size+5) 70 3 (.slice a4 is.length c4) is.length (is.flatMap dc):=by
  have h:=aj (HROWS 4 (by decide)) f23 fun g hg e=>hoff 4 (by decide) g hg e
  rw[HV4.out,hX4] at h;rw[hlen];exact h
 have hsmi:=HSM.imps;have HIS:=Z his;have HISL:Hid (is.length≤500000):=Z (by omega);have HF23:=Z f23;have HOFF:=Z hoff;refine rY _ ob t is (w.heap.size+5) (.slice a4 is.length c4) _ _ (.pointer (some ⟨w2.heap.size,0,none⟩)) ev (fun u=>u 3= .pointer (some ⟨ob,0,none⟩)∧u 27= .slice a4 is.length c4∧u 28= .int .i64 is.length∧u 29= .int .i64 0∧u 4= .pointer (some ⟨w2.heap.size,0,none⟩)∧u 5=ev) (fun u h=>h) (Fr17.mk rfl rfl ⟨rfl,by rw[hlen];rfl,by rw[hlen];rfl,rfl,rfl,rfl⟩) hB3 hr3 (fun g hg=>HOFF.out 4 (by decide) g (by rw[HV4.out,←hlen];exact hg)) (by omega) ?_;clear hB3 hn4 hX4 his hlen fs f23 hoff hr3 hsmi;rintro a' wx iv ⟨u,⟨u3,u4,u5⟩,rfl⟩ hOB hRow hFr;have hfx:Fr (· =ob) w2 wx:=HF23.trans hFr;have hro:∀i,i<5→wx.ownsRow (w.heap.size+5) (mF i) (qv i) (V i) (N i) (X i):=fun i hi=>aj (HROWS i hi) hfx fun g hg e=>HOFF i hi g hg e
 obtain⟨hn2,ks,hX2,hEL⟩:=HREL.errs;have hobx:=ab hOB 3;have hobf:=ae hOB 3;have hobl:=af hOB;unfold ow;rw[u3,u4,u5];clear u3 u4 u5;have HOB:=Z hOB;have HROW:=Z hRow;have HFX:=Z hfx;have HFR2:=Z hFr;have HRO:=Z hro;have hBS:w.heap.size≤((w2.alloc (.cells #[.string t,.slice a4 (N 4) c4] 61)).setCell ⟨ob,0,none⟩ (.string t)).heap.size:=Nat.le_trans HK2.size HF23.size;have hsmi:=HSM.imps;have hsme:=HSM.errs;have HEL:=Z hEL;have HX2:=Z hX2;have HN2:=Z hn2;have HBSZ:=Z hBS;have HSME:=Z hsme;clear hOB hRow hfx hro hFr hEL hX2 hn2 hBS hsmi hsme;rcases HEV with⟨hfl,hfin,b,hev⟩|⟨hff,hev⟩
 ·obtain rfl:=hev;have hta:=wu b;go_upto_block 2 with fail;refine ja (wx.setCell ⟨ob,3,none⟩ (.bool true)) nu ob t iv true [] [] (w.heap.size+5) (.slice none 0 0) _ _ (Fr17.mk rfl rfl ⟨rfl,rfl,rfl,rfl⟩) (ag HOB.out 3 (.bool true)) ⟨rfl,.inl ⟨rfl,rfl⟩⟩ (fun g hg=>by cases hg) (by simp) rfl (fun i h=>by simp at h) ?_;intro a2 wy fv hd hO hR hF;have hfin':fin=true:=hfin;exact bodyPost_end (results_none rfl _ _ _) hd ⟨rfl,oa (es:=[]) HSCF.out HTN.out hobw HK2.out HFX.out (by rw[hfl,hfin'];rfl) hO hF HROW.out HBSZ.out HIS.out HISL.out hR (by rw[hfl,hfin'];rfl) (Nat.zero_le _)⟩
 ·have hff':false=(fl&&fin):=by
   rcases hff with h|h
   ·rw[h];rfl
   ·have h':fin=false:=h;rw[h'];simp
  have HFF:=Z hff';clear hff' hff;by_cases hz:N 2=0
  ·rw[if_pos hz] at hev;obtain rfl:=hev;have hta:=wv;go_upto_block 2 with fail;refine ja (wx.setCell ⟨ob,3,none⟩ (.bool false)) nu ob t iv false [] [] (w.heap.size+5) (.slice none 0 0) _ _ (Fr17.mk rfl rfl ⟨rfl,rfl,rfl,rfl⟩) (ag HOB.out 3 (.bool false)) ⟨rfl,.inl ⟨rfl,rfl⟩⟩ (fun g hg=>by cases hg) (by simp) rfl (fun i h=>by simp at h) ?_;intro a2 wy fv hd hO hR hF;have hne:s.errs=[]:=List.length_eq_zero_iff.mp (by rw[←HN2.out,hz]);exact bodyPost_end (results_none rfl _ _ _) hd ⟨rfl,oa (es:=[]) HSCF.out HTN.out hobw HK2.out HFX.out HFF.out hO hF HROW.out HBSZ.out HIS.out HISL.out hR (by rw[hne];simp) (Nat.zero_le _)⟩
  ·rw[if_neg hz] at hev;obtain⟨e2,d2,hv2⟩:=aT (HRO 2 (by decide));rw[hv2] at hev;obtain rfl:=hev;have hta:=wt e2 (N 2) d2;go_upto_block 2 with fail;have hkl:ks.length=N 2:=by rw[HN2.out];exact HEL.1
   have hsx:Fr (· =ob) wx (wx.setCell ⟨ob,3,none⟩ (.bool false)):=(Fr.refl wx).setIn (S:=(· =ob)) _ rfl;have hr2:(wx.setCell ⟨ob,3,none⟩ (.bool false)).ownsRow (w.heap.size+5) 75 1 (.slice e2 (N 2) d2) ks.length (ks.map ce):=by
    have h:=aj (HRO 2 (by decide)) hsx fun g hg e=>HOFF 2 (by decide) g hg e
    rw[hv2,HX2.out] at h;rw[hkl];exact h
   refine ja (wx.setCell ⟨ob,3,none⟩ (.bool false)) nu ob t iv false ks s.errs (w.heap.size+5) (.slice e2 (N 2) d2) _ _ (Fr17.mk rfl rfl ⟨rfl,rfl,by rw[hkl];rfl,rfl⟩) (ag HOB.out 3 (.bool false)) hr2 (fun g hg=>HOFF.out 2 (by decide) g (by rw[hv2];exact hg)) (by have:=HSME.out;have:=HEL.1;omega) HEL.1 (fun i h h'=>?_) ?_
   ·have hE:=(HEL.2 i h h').2;obtain⟨v,hb⟩:=hE;refine⟨v,(HFX.trans hsx).blk (fun e=>?_) hb⟩;have e':ks[i]=ob:=e;have h1:=HB2.out;unfold gX at h1;have h2:=Keep.blk ((Fr.refl w2).alloc (.cells #[.string t,.slice a4 (N 4) c4] 61)) hb;rw[e',h1] at h2;simp at h2
   intro a2 wy fv hd hO hR hF;exact bodyPost_end (results_none rfl _ _ _) hd ⟨rfl,oa HSCF.out HTN.out hobw HK2.out HFX.out HFF.out hO hF HROW.out HBSZ.out HIS.out HISL.out hR (by rw[←HFF.out];rfl) HSME.out⟩
end Go.Proofs.YtnclklfhjbkjhaaGreatDoor
