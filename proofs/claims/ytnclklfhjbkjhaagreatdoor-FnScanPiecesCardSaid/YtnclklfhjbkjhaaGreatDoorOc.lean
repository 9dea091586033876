/- Part of the proof: O7 O9 O8. -/
import Derived.Test.YtnclklfhjbkjhaaGreatDoorIa
import Derived.Test.YtnclklfhjbkjhaaGreatDoorOb
set_option maxRecDepth 1000000
set_option maxHeartbeats 40000000
set_option linter.unusedSimpArgs false
namespace Go.Proofs.YtnclklfhjbkjhaaGreatDoor
open Tryz
open Go.RowKit Go.Lib
theorem FSeg.len{c:PC}{i j:Nat}{ds:List TopD}(h:FSeg c i j ds):j<c.ts.length→ds.length≤j-i∧i≤j:=by
 induction h with
 |nil=>intro _;simp
 | @snoc j k ds d _ ht ih=>
  intro hk;have hlt:=ht.lt hk;have:=ih (by omega);simp only[qk,List.length_cons,List.length_nil];omega
theorem TKs.len{w:World}{B:Nat}{u:Value}{l:List Nd}{ds:List TopD}(h:TKs w B u l ds):l.length=ds.length:=by
 induction h with
 |nil=>rfl
 |snoc _ _ _ ih=>simp[ih]
theorem TKs.at{w:World}{B:Nat}{u:Value}{l:List Nd}{ds:List TopD}(h:TKs w B u l ds):∀j (h1:j<l.length) (h2:j<ds.length),TopK w B l[j].kind (.slice l[j].ka l[j].kn l[j].kc) ds[j]:=by
 induction h with
 |nil=>intro j h1;simp at h1
 | @snoc l ds x d h0 hk hd ih=>
  intro j h1 h2;have hl:=h0.len;rcases Nat.lt_or_ge j l.length with h|h
  ·rw[List.getElem_append_left h,List.getElem_append_left (by omega)];exact ih j h (by omega)
  ·have:j=l.length:=by simp at h1;omega
   subst this;simp only[hl,List.getElem_concat_length];exact hk
theorem KOwn.cells{B:Nat}{w:World}{g n c:Nat}{l:List Nd}(h:KOwn B w (.slice (some ⟨g,0,none⟩) n c) l)(j:Nat)(hj:j<l.length)(k:Nat)(u:Value)(hu:(l[j]).cells[k]? =some u):w.cell? ⟨g,j*6+k,none⟩=some u:=by
 have hk:k<6:=by
  have:=(List.getElem?_eq_some_iff.1 hu).1;simpa[Nd.cells,Nd.arr] using this
 have hn:n=l.length:=by
  obtain⟨ka,kc,h1,h2⟩:=h.form;cases h1;rfl
 subst hn;have:=World.ownsRow.cells h (g:=g) rfl (j*6+k) u (by rw[lX l j hj k hk,hu])
 rwa [cF] at this
def tK(w:World)(e:Ending)(w':World):Prop:=∃k:Int,e= .returned (.int .i64 k)∧Keep w w'
theorem lB(B:Nat)(k f l n:Int)(t:ByteArray)(ka:Option Addr)(kn kc:Nat)(ns:List Nd)(w:World)(h:KOwn B w (.slice ka kn kc) ns)(hn:ns.length≤2000000):
  Calls prog 7 #[.agg #[.int .i64 k,.int .i64 f,.int .i64 l,.string t,.int .u64 n,.slice ka kn kc]] w (tK w):=by
 have hkn:kn=ns.length:=by
  obtain⟨ka',kc',h1,h2⟩:=h.form;cases h1;rfl
 subst hkn;have H:=Z h;clear h;go_enter func7,ntmps7;go_wp2_with fail;refine aG (fun x=>Hid (Keep w x)) (Z ((Fr.refl w).alloc _)) ?_;intro x X;go_loopw [3,9] (fun a b wr=>∃ (j:Nat) (m:Nat),a= .int .i64 m∧b= .int .i64 j∧m≤j∧j≤ns.length∧Hid (Keep w wr)) (fun _ b _=>ns.length-br b)
 case atStart=>exact⟨0,0,rfl,rfl,Nat.le_refl _,Nat.zero_le _,Z X.out⟩
 case round=>
  obtain⟨j,m,rfl,rfl,hm,hj,HR⟩:=hrel;by_cases hk:j<ns.length
  ·have hkz:(j:Int) < (ns.length:Int):=by omega
   obtain⟨g,rfl⟩:∃g,ka=some ⟨g,0,none⟩:=by
    obtain⟨g,h,-⟩:=f_ (show w.ownsRow B 26 6 (.slice ka ns.length kc) ns.length (eZ ns) from H.out) (by omega);exact⟨g,h⟩
   have hkw:=H.keep HR.out;have c0:=hkw.cells j hk 0 _ rfl;have c1:=hkw.cells j hk 1 _ rfl;have c2:=hkw.cells j hk 2 _ rfl;have c3:=hkw.cells j hk 3 _ rfl;have c4:=hkw.cells j hk 4 _ rfl;have c5:=hkw.cells j hk 5 _ rfl;simp only[Nat.add_zero] at c0;obtain⟨nd,hnd⟩:∃nd,nd=ns[j]:=⟨_,rfl⟩;rw[←hnd] at c0 c1 c2 c3 c4 c5;obtain⟨a0,a1,a2,a3,a4,a5,a6,a7⟩:=nd;clear hnd hkw;have hj1:j≤2000000:=by omega
   have hm1:m≤2000000:=by omega
   by_cases h4:a0=4
   ·subst h4;go_wp2_with fail;go_roundw
    case rel=>exact⟨j+1,m+1,by simp,by simp,by omega,by omega,Z (HR.alloc _)⟩
    case measure=>simp only[br];omega
   ·have q4:(a0==4)=false:=beq_eq_false_iff_ne.2 h4;go_wp2_with fail;go_roundw
    case rel=>exact⟨j+1,m,by simp,by simp,by omega,by omega,Z (HR.alloc _)⟩
    case measure=>simp only[br];omega
  ·have hkz:¬ (j:Int) < (ns.length:Int):=by omega
   go_wp2_with fail;exact qh (results_tmp results7 _ _ _) rfl ⟨_,rfl,HR.out⟩
end Go.Proofs.YtnclklfhjbkjhaaGreatDoor
namespace Go.Proofs.YtnclklfhjbkjhaaGreatDoor
open Go.RowKit Go.Lib
theorem u_{b:UInt8}{l:List UInt8}(h:b.toNat<128):ex (b::l)=(b.toNat,1):=by
 unfold ex;rw[if_neg (by simp)];have h0:bt (b::l) 0=b.toNat:=rfl;rw[h0];unfold nE;rw[oy h];simp;intro h1;omega
theorem ki:∀ (l:List UInt8),(∀b∈l,b.toNat<128)→bj l=l.map fun b=>(b.toNat:Int)
 | [],_=>by rw[dj];rfl
 |b::r,h=>by
  rw[fL (by simp),u_ (h b (by simp))];simp only[List.drop_succ_cons,List.drop_zero,List.map_cons];rw[ki r fun x hx=>h x (by simp[hx])]
theorem uF{s:ByteArray}(h:∀i,bz s i<128):∀b∈s.toList,b.toNat<128:=by
 intro b hb;obtain⟨i,hi,rfl⟩:=List.getElem_of_mem hb;have:=h i;unfold bz at this;rw[List.getD_eq_getElem?_getD,List.getElem?_eq_getElem hi] at this;simp only[Option.getD_some] at this;omega
theorem rH{s:ByteArray}(h:∀i,bz s i<128):bj s.toList=tx s 0:=by
 rw[ki _ (uF h)];unfold tx;rw[List.drop_zero]
theorem xC{s:ByteArray}(h:∀i,bz s i<128)(i:Nat):bt s.toList i<240:=by
 have:=h i;unfold bz at this;unfold bt;omega
theorem oK{a b:ByteArray}(h:a.toList=b.toList):a=b:=by
 rw[qi,qi] at h;cases a;cases b;simp only[ByteArray.mk.injEq] at*
 exact Array.toList_inj.1 h
theorem lN:∀ {a b:List (ByteArray×Bool×Bool)},(a.map fun x=>(x.1.toList,x.2.1,x.2.2))=(b.map fun x=>(x.1.toList,x.2.1,x.2.2))→a=b
 | [],[],_=>rfl
 | [],_::_,h=>by simp at h
 |_::_,[],h=>by simp at h
 |(x,p,q) ::r,(x',p',q') ::r',h=>by
  simp only[List.map_cons,List.cons.injEq,Prod.mk.injEq] at h;obtain⟨⟨h1,h2,h3⟩,h4⟩:=h;rw[oK h1,h2,h3,lN h4]
theorem j9{s:ByteArray}{B:Nat}{kv:Value}{w:World}(h:ParseOk s B kv w):∃ (ks:List Nd) (x:Nd) (u:Value) (ds:List TopD) (sc:Sc),(∀i,bz s i<128)∧KOwn B w kv (ks++ [x])∧x.kind=39∧TKs w (B+1) u ks ds∧ks.length≤1000000∧
  bT (bj s.toList) ⟨0,0⟩ lj=(sc,true)∧sc.errs=[]∧(sc.imports,sc.name)=ds.foldl fe ([],[]):=by
 obtain⟨c,ds,ks,x,u,h1,h2,h3,h4,h5⟩:=h;have hp:=h1.pos;have hlr:LR (bj s.toList) (vK c 0):=by
  rw[rH h1.asc];exact h1.lr
 obtain⟨sc,g1,g2,g3⟩:=p9 h2 hp hlr;have hl:=h2.len (by omega);have hk:=h5.len;have hs:=c.small;exact⟨ks,x,u,ds,sc,h1.asc,h3,h4,h5,by omega,g1,g2,g3⟩
end Go.Proofs.YtnclklfhjbkjhaaGreatDoor
namespace Go.Proofs.YtnclklfhjbkjhaaGreatDoor
open Tryz
open Go.RowKit Go.Lib
theorem KOwn.cells'{B:Nat}{w:World}{v:Value}{l:List Nd}(h:KOwn B w v l)(hl:0<l.length):∃g c,v= .slice (some ⟨g,0,none⟩) l.length c∧∀j (hj:j<l.length) (k:Nat) (u:Value),(l[j]).cells[k]? =some u→w.cell? ⟨g,j*6+k,none⟩=some u:=by
 obtain⟨ka,kc,rfl,-⟩:=h.form;obtain⟨g,rfl,-⟩:=f_ (show w.ownsRow B 26 6 (.slice ka l.length kc) l.length (eZ l) from h) hl;exact⟨g,kc,rfl,fun j hj k u hu=>h.cells j hj k u hu⟩
theorem KOwn.len63{B:Nat}{w:World}{v:Value}{l:List Nd}(h:KOwn B w v l):(l.length:Int)≤9223372036854775807:=by
 rcases h.2 with⟨-,h⟩|⟨g,cap,cur,h1,h2,h3,h4,h5,h6,h7⟩
 ·omega
 ·unfold maxLen at*
  omega
theorem iH{K:Exit→Act→World→Prop}{a:Act}{w:World}(I:World→Prop)(h:I w)(k:∀x,I x→K .normal a x):K .normal a w:=k w h
def jL(is:List (ByteArray×Bool×Bool))(t:ByteArray):List (List UInt8×Bool×Bool) ×List UInt8:=(is.map fun x=>(x.1.toList,x.2.1,x.2.2),t.toList)
def vE(ds:List TopD)(w:World)(e:Ending)(w':World):Prop:=
 ∃ (is:List (ByteArray×Bool×Bool)) (t:ByteArray) (iv:Value),e= .returned (.tuple #[.string t,iv])∧Keep w w'∧w'.ownsRow w.heap.size 57 3 iv is.length (is.flatMap dc)∧is.length≤2000000∧jL is t=ds.foldl fe ([],[])
theorem qL(ds:List TopD)(j:Nat)(hj:j<ds.length):(ds.take (j+1)).foldl fe ([],[])=fe ((ds.take j).foldl fe ([],[])) ds[j]:=by
 rw[List.take_succ_eq_append_getElem hj,List.foldl_append];rfl
theorem ni(B B2:Nat)(k f l n:Int)(t0:ByteArray)(ka:Option Addr)(kn kc:Nat)(ks:List Nd)(x:Nd)(u:Value)(ds:List TopD)(w:World)(h:KOwn B w (.slice ka kn kc) (ks++ [x]))(hn:ks.length≤1000000)(hx:x.kind=39)(ht:TKs w B2 u ks ds):
  Calls prog 9 #[.agg #[.int .i64 k,.int .i64 f,.int .i64 l,.string t0,.int .u64 n,.slice ka kn kc]] w (vE ds w):=by
 have hlen:=ht.len;obtain⟨g0,c0,he,hcell⟩:=h.cells' (by simp);cases he;have hl1:(ks++ [x]).length=ks.length+1:=by simp
 have hkind:∀j (hj:j< (ks++ [x]).length),(j<ks.length∧∃hj1:j<ds.length,TopK w B2 (ks++ [x])[j].kind (.slice (ks++ [x])[j].ka (ks++ [x])[j].kn (ks++ [x])[j].kc) ds[j])∨(j=ks.length∧(ks++ [x])[j].kind=39):=by
  intro j hj;rcases Nat.lt_or_ge j ks.length with h1|h1
  ·refine .inl ⟨h1,by omega,?_⟩;rw[List.getElem_append_left h1];exact ht.at j h1 (by omega)
  ·have:j=ks.length:=by omega
   subst this;exact .inr ⟨rfl,by simpa using hx⟩
 obtain⟨ns,hns⟩:∃ns,ns=ks++ [x]:=⟨_,rfl⟩;rw[←hns] at hcell hkind hl1;rw[←hns];clear h ht hns hx;have HC:=Z hcell;have HK:=Z hkind;have HL:=Z hlen;have HL1:=Z hl1;clear hcell hkind hlen hl1;go_enter func9,ntmps9;go_upto_block 0 with fail;go_wp2_with fail;go_loopg [4,5,12] ns.length (fun gk s4 s5 s12 wr=>∃ (j:Nat) (is:List (ByteArray×Bool×Bool)) (t:ByteArray),gk=ns.length-j∧s4= .string t∧s12= .int .i64 j∧j≤ns.length∧is.length≤j∧Hid (Keep w wr∧wr.ownsRow w.heap.size 57 3 s5 is.length (is.flatMap dc)∧jL is t=(ds.take j).foldl fe ([],[])))
 case atStart=>exact⟨0,[],⟨#[]⟩,rfl,rfl,rfl,Nat.zero_le _,Nat.le_refl _,Z ⟨(Fr.refl w).alloc _,⟨by simp,.inl ⟨rfl,rfl⟩⟩,by simp[jL,qi]⟩⟩
 case round=>
  obtain⟨j,is,t,rfl,rfl,rfl,hj,hil,HR⟩:=hrel;by_cases hlt:j<ns.length
  ·have hltz:(j:Int) < (ns.length:Int):=by omega
   have hj1:j≤2000000:=by have:=HL1.out;omega
   have hc:=fun k' u' hu=>Keep.cell HR.1 (HC.out j hlt k' u' hu)
   have n0:=hc 0 _ rfl;have n1:=hc 1 _ rfl;have n2:=hc 2 _ rfl;have n3:=hc 3 _ rfl;have n4:=hc 4 _ rfl;have n5:=hc 5 _ rfl;simp only[Nat.add_zero] at n0;have hkd:=HK.out j hlt;obtain⟨nd,hnd⟩:∃nd,nd=ns[j]:=⟨_,rfl⟩;rw[←hnd] at n0 n1 n2 n3 n4 n5 hkd;obtain⟨a0,a1,a2,a3,a4,a5,a6,a7⟩:=nd;simp only at hkd;clear hnd hc;rcases hkd with⟨hjk,hjd,htop⟩|⟨hje,hx⟩
   ·have HFT:=Z (qL ds j hjd);have HJD:=Z hjd;obtain⟨d,hd,htop⟩:∃d,d=ds[j]'hjd∧TopK w B2 a0 (.slice a5 a6 a7) d:=⟨_,rfl,htop⟩;have HD:=Z hd;clear hd hjk;cases d with
    |other=>
     obtain⟨h4,h5⟩:=htop;have q4:(a0==4)=false:=beq_eq_false_iff_ne.2 h4;have q5:(a0==5)=false:=beq_eq_false_iff_ne.2 h5;go_wp2_with fail;go_roundg (ns.length- (j+1))
     case rel=>exact⟨j+1,is,t,rfl,rfl,by simp,hlt,by omega,Z ⟨HR.1.alloc _,aj HR.2.1 ((Fr.refl wr).alloc _) (fun _ _ e=>e),by rw[HFT.out,←HD.out];exact HR.2.2⟩⟩
     case measure=>omega
    |pkg tn=>
     obtain⟨h4,l1,x1,hk1,hx1,htx⟩:=htop;subst h4;have hl2:1<l1.length:=(List.getElem?_eq_some_iff.1 hx1).1;obtain⟨g2,c2,he2,hc2⟩:=(hk1.keep HR.1).cells' (by omega);cases he2;have hxe:l1[1]=x1:=(List.getElem?_eq_some_iff.1 hx1).2;have m3:=hc2 1 hl2 3 (.string x1.text) (by rw[hxe];rfl);have m3':wr.cell? ⟨g2,9,none⟩=some (.string x1.text):=m3;have lg2:=ax m3';have hl2z:(1:Int) < (l1.length:Int):=by omega
     have HTX:=Z htx;obtain⟨tx1,htx1⟩:∃t,t=x1.text:=⟨_,rfl⟩;rw[←htx1] at m3 m3';have HTX1:=Z htx1;clear hk1 hx1 htx hc2 hxe htx1 m3;go_wp2_with fail;go_roundg (ns.length- (j+1))
     case rel=>exact⟨j+1,is,tx1,rfl,rfl,by simp,hlt,by omega,Z ⟨HR.1.alloc _,aj HR.2.1 ((Fr.refl wr).alloc _) (fun _ _ e=>e),by rw[HFT.out,←HD.out,←HR.2.2,HTX1.out];simp only[jL,fe,HTX.out]⟩⟩
     case measure=>omega
    |imp p pub weak=>
     obtain⟨h5,l1,x1,y1,hk1,hl3,hx1,hy1,hty,hpub,hweak⟩:=htop;subst h5;obtain⟨q,hq⟩:∃q,l1.length=q+2:=⟨l1.length-2,by omega⟩;have hl2:1<l1.length:=(List.getElem?_eq_some_iff.1 hx1).1;obtain⟨g2,c2,he2,hc2⟩:=(hk1.keep HR.1).cells' (by omega);cases he2;have hxe:l1[1]=x1:=(List.getElem?_eq_some_iff.1 hx1).2;have hye:l1[l1.length-2]'(by omega)=y1:=(List.getElem?_eq_some_iff.1 hy1).2;have m0:wr.cell? ⟨g2,6,none⟩=some (.int .i64 x1.kind):=hc2 1 hl2 0 (.int .i64 x1.kind) (by rw[hxe];rfl);have m3:wr.cell? ⟨g2,9,none⟩=some (.string x1.text):=hc2 1 hl2 3 (.string x1.text) (by rw[hxe];rfl);have m9:wr.cell? ⟨g2,q*6+3,none⟩=some (.string y1.text):=by
      have h:=hc2 (l1.length-2) (by omega) 3 (.string y1.text) (by rw[hye];rfl);rw[show l1.length-2=q from by omega] at h;exact h
     rw[hq] at n5;have lg2:=ax m9;obtain⟨xk,hxk⟩:∃xk,xk=x1.kind:=⟨_,rfl⟩;obtain⟨xt,hxt⟩:∃xt,xt=x1.text:=⟨_,rfl⟩;obtain⟨yt,hyt⟩:∃yt,yt=y1.text:=⟨_,rfl⟩;rw[←hxk] at m0 hpub hweak;rw[←hxt] at m3 hpub hweak;rw[←hyt] at m9 hty;have HTY:=Z hty;have HPUB:=Z hpub;have HWEAK:=Z hweak;have hqb:(q:Int)≤9223372036854775805:=by
      have h1:=hk1.len63;omega
     have hqw:IntKind.i64.wrap (q:Int)=(q:Int):=IntWalk.i64_in _ (by omega);clear hqb;have hq1:(q:Int) < ((q+2:Nat):Int):=by omega
     clear hk1 hx1 hy1 hty hc2 hxe hye hxk hxt hyt hpub hweak hq hl2 hl3;go_upto_region 11 with fail;refine aG (fun x=>Hid (Keep wr x∧x.heap[wr.heap.size]? =some (.cells #[.int .i64 5,.int .i64 a1,.int .i64 a2,.string a3,.int .u64 a4,.slice (some ⟨g2,0,none⟩) (q+2) a7] 26 (0,0))∧x.heap[wr.heap.size+1]? =some (.cells #[.string yt,.bool false,.bool false] 57 (0,0))∧wr.heap.size+2=x.heap.size)) (Z ⟨((Fr.refl wr).alloc _).alloc _,Keep.blk ((Fr.refl _).alloc _) (ql wr _),by have h:=ql (wr.alloc (.cells #[.int .i64 5,.int .i64 a1,.int .i64 a2,.string a3,.int .u64 a4,.slice (some ⟨g2,0,none⟩) (q+2) a7] 26)) (.cells #[.string yt,.bool false,.bool false] 57);rwa [World.size_alloc] at h,by simp⟩) ?_;intro x X;obtain⟨T,hT⟩:∃T,T=wr.heap.size:=⟨_,rfl⟩;rw[←hT] at X lg2;rw[←hT];have HTT:=Z hT;clear hT;have s5:x.cell? ⟨T,5,none⟩=some (.slice (some ⟨g2,0,none⟩) (q+2) a7):=ab X.2.1 5;have s6:=Keep.cell X.1 m0;have s9:=Keep.cell X.1 m3;have y1:x.cell? ⟨T+1,1,none⟩=some (.bool false):=ab X.2.2.1 1;have y2:x.cell? ⟨T+1,2,none⟩=some (.bool false):=ab X.2.2.1 2;have f1:=ae X.2.2.1 1;have f2:=ae X.2.2.1 2;have l8:=af X.2.2.1;have d7:¬T=T+1:=by omega
     have dg:¬g2=T+1:=by omega
     have hlen2:(1:Int) < (q:Int)+2:=by omega
     obtain⟨v1,hv1⟩:∃v1,v1=pub:=⟨_,rfl⟩;clear m0 m3 m9 n0 n1 n2 n3 n4 n5;obtain⟨b3,hb3⟩:∃b3,(xk==31)=b3:=⟨_,rfl⟩;have HB3:=Z hb3;have hij:is.length≤1000000:=by have:=HL1.out;omega
     have HTL:=Z (show T<x.heap.size∧T+2=x.heap.size∧w.heap.size≤T by have h1:=X.2.2.2;have h2:=HR.1.size;have h3:=HTT.out;omega);cases hb1:xt.toList== [112,117,98,108,105,99]<;>cases hb2:xt.toList== [119,101,97,107]
     ·refine wp_region_held_drew (S:=(fun w'=>w'.cell? ⟨T,5,none⟩=some (.slice (some ⟨g2,0,none⟩) (q+2) a7)∧w'.cell? ⟨g2,6,none⟩=some (.int .i64 xk)∧w'.cell? ⟨g2,9,none⟩=some (.string xt))) (by kernel_rfl) ⟨s5,s6,s9⟩ (fun hHeld=>?_);refine wpAnyH_take (i:=0) (v:=?_) rfl (by kernel_rfl) (by kernel_rfl) (by kernel_rfl) (fun _ _ _ h=>h) (Or.inl ⟨by rfl,?_⟩) hHeld ?_;rotate_left
      ·intro w hSw
       (try dsimp only at hSw)
       go_simp
       try with_reducible rfl
      try simp only[List.getElem_toArray,Act.put,List.setIfInBounds_toArray]
      iterate 6
       refine dP (v:=?_) 1 rfl rfl (by kernel_rfl) (by rfl) (fun _ _ _ h=>h) ?_ hHeld ?_;rotate_left
       ·intro w hSw
        (try dsimp only at hSw)
        go_simp
        try with_reducible rfl
       try simp only[qa,qb,qc,Act.put,qd,qe,qf]
      iterate 6
       refine vI 7 rfl rfl (by kernel_rfl) (by rfl) (fun _ _ _ h=>h) hHeld ?_
       try simp only[qa,qb,qc,Act.put,qd,qe,qf]
      iterate 8
       refine dP (v:=?_) 13 rfl rfl (by kernel_rfl) (by rfl) (fun _ _ _ h=>h) ?_ hHeld ?_;rotate_left
       ·intro w hSw
        (try dsimp only at hSw)
        go_simp
        try with_reducible rfl
       try simp only[qa,qb,qc,Act.put,qd,qe,qf]
      iterate 6
       refine vI 21 rfl rfl (by kernel_rfl) (by rfl) (fun _ _ _ h=>h) hHeld ?_
       try simp only[qa,qb,qc,Act.put,qd,qe,qf]
      iterate 2
       refine dP (v:=?_) 27 rfl rfl (by kernel_rfl) (by rfl) (fun _ _ _ h=>h) ?_ hHeld ?_;rotate_left
       ·intro w hSw
        (try dsimp only at hSw)
        go_simp
        try with_reducible rfl
       try simp only[qa,qb,qc,Act.put,qd,qe,qf]
      refine wpAnyH_ready (rs:=[29]) (by kernel_rfl) (by simp) ?_;refine AllReadyH.cons rfl (fun K hK=>?_) AllReadyH.nil;go_simp;refine hK.out _ _ (by refine⟨Fr.cell (S:=(· =T+1)) ?_ d7 s5,Fr.cell (S:=(· =T+1)) ?_ dg s6,Fr.cell (S:=(· =T+1)) ?_ dg s9⟩<;> (repeat(first|(with_reducible exact Fr.refl _)|(with_reducible refine Fr.drew ?_)|(with_reducible refine Fr.setIn ?_ _ rfl)))) (fun hHeld=>?_);clear hK K
      try simp only[qa,qb,qc,Act.put,qd,qe,qf]
      refine dP (v:=?_) 30 rfl rfl (by kernel_rfl) (by rfl) (fun _ _ _ h=>h) ?_ hHeld ?_;rotate_left
      ·intro w hSw
       (try dsimp only at hSw)
       go_simp
       try with_reducible rfl
      try simp only[qa,qb,qc,Act.put,qd,qe,qf]
      refine wpAnyH_ready (rs:=[31]) (by kernel_rfl) (by simp) ?_;refine AllReadyH.cons rfl (fun K hK=>?_) AllReadyH.nil;go_simp;refine hK.out _ _ (by refine⟨Fr.cell (S:=(· =T+1)) ?_ d7 s5,Fr.cell (S:=(· =T+1)) ?_ dg s6,Fr.cell (S:=(· =T+1)) ?_ dg s9⟩<;> (repeat(first|(with_reducible exact Fr.refl _)|(with_reducible refine Fr.drew ?_)|(with_reducible refine Fr.setIn ?_ _ rfl)))) (fun hHeld=>?_);clear hK K
      try simp only[qa,qb,qc,Act.put,qd,qe,qf]
      refine wpAnyH_done (by kernel_rfl) ?_ _;have hb9:(((x.setCell ⟨T+1,1,none⟩ (.bool false)).setCell ⟨T+1,2,none⟩ (.bool false)).drew).heap[T+1]? =some (.cells #[.string yt,.bool false,.bool false] 57 (0,0)):=(ag (ag X.2.2.1 1 (.bool false)) 2 (.bool false)).trans rfl;have fz:Fr (· =T+1) x (((x.setCell ⟨T+1,1,none⟩ (.bool false)).setCell ⟨T+1,2,none⟩ (.bool false)).drew):=(((Fr.refl x).setIn (S:=(· =T+1)) (p:=⟨T+1,1,none⟩) (.bool false) rfl).setIn (p:=⟨T+1,2,none⟩) (.bool false) rfl).drew;have hpq:(false,false)=(pub,weak):=by rw[HPUB.out,HWEAK.out,hb3,show(xt.toList==fj)=false from hb1,show(xt.toList==kh)=false from hb2];simp
      refine iH (fun Y=>Hid (Fr (· =T+1) x Y∧Y.heap[T+1]? =some (.cells #[.string yt,.bool false,.bool false] 57 (0,0)))) (Z ⟨fz,hb9⟩) ?_;intro Y HY;clear hb9 fz;have kY:Keep wr Y:=X.1.andThen HY.1 (fun i hi e=>by have e':i=T+1:=e;have:=HTT.out;omega);have hrY:=aj HR.2.1 kY (fun _ _ e=>e);have z0:Y.cell? ⟨T+1,0,none⟩=some (.string yt):=ab HY.2 0;have z1:Y.cell? ⟨T+1,1,none⟩=some (.bool false):=ab HY.2 1;have z2:Y.cell? ⟨T+1,2,none⟩=some (.bool false):=ab HY.2 2;have HRA:=Z (aj hrY ((Fr.refl Y).alloc (.cells #[.string yt,.bool false,.bool false] 57)) (fun _ _ e=>e));have HBA:=Z (Nat.le_trans HR.1.size ((kY.alloc (.cells #[.string yt,.bool false,.bool false] 57)).size));have HKY:=Z kY;have HRY:=Z hrY;clear kY hrY s5 s6 s9 y1 y2 f1 f2 l8;go_wp2_with (refine appV 32 57 _ 3 24 underlying32 lP rfl (by decide) (by decide) (m:=is.length) HRA.out HBA.out hij (cs:=#[.string yt,.bool false,.bool false]) rfl (by simp[Value.oneCell']) (ql Y _) (by rfl) (by rfl) ?_;intro v' w' hv hr f hos;have HRN:=Z hr;have HFN:=Z f;clear hr f hos hv);go_roundg (ns.length- (j+1))
      case rel=>
       refine⟨j+1,is++ [(yt,false,false)],t,rfl,rfl,by simp,hlt,by simp;omega,Z ⟨((HR.1.trans HKY.out).alloc _).andThen HFN.out (fun i hi e=>by have:=(ar HRY.out e).1;omega),?_,?_⟩⟩
       ·have h:=HRN.out;simpa[dc] using h
       ·rw[HFT.out,←HD.out,←HR.2.2];simp only[jL,fe,List.map_append,List.map_cons,List.map_nil,HTY.out];rw[show pub=false from(congrArg Prod.fst hpq).symm,show weak=false from(congrArg Prod.snd hpq).symm]
      case measure=>omega
     ·refine wp_region_held_drew (S:=(fun w'=>w'.cell? ⟨T,5,none⟩=some (.slice (some ⟨g2,0,none⟩) (q+2) a7)∧w'.cell? ⟨g2,6,none⟩=some (.int .i64 xk)∧w'.cell? ⟨g2,9,none⟩=some (.string xt))) (by kernel_rfl) ⟨s5,s6,s9⟩ (fun hHeld=>?_);refine wpAnyH_take (i:=0) (v:=?_) rfl (by kernel_rfl) (by kernel_rfl) (by kernel_rfl) (fun _ _ _ h=>h) (Or.inl ⟨by rfl,?_⟩) hHeld ?_;rotate_left
      ·intro w hSw
       (try dsimp only at hSw)
       go_simp
       try with_reducible rfl
      try simp only[List.getElem_toArray,Act.put,List.setIfInBounds_toArray]
      iterate 6
       refine dP (v:=?_) 1 rfl rfl (by kernel_rfl) (by rfl) (fun _ _ _ h=>h) ?_ hHeld ?_;rotate_left
       ·intro w hSw
        (try dsimp only at hSw)
        go_simp
        try with_reducible rfl
       try simp only[qa,qb,qc,Act.put,qd,qe,qf]
      iterate 6
       refine vI 7 rfl rfl (by kernel_rfl) (by rfl) (fun _ _ _ h=>h) hHeld ?_
       try simp only[qa,qb,qc,Act.put,qd,qe,qf]
      iterate 16
       refine dP (v:=?_) 13 rfl rfl (by kernel_rfl) (by rfl) (fun _ _ _ h=>h) ?_ hHeld ?_;rotate_left
       ·intro w hSw
        (try dsimp only at hSw)
        go_simp
        try with_reducible rfl
       try simp only[qa,qb,qc,Act.put,qd,qe,qf]
      refine wpAnyH_ready (rs:=[29]) (by kernel_rfl) (by simp) ?_;refine AllReadyH.cons rfl (fun K hK=>?_) AllReadyH.nil;go_simp;refine hK.out _ _ (by refine⟨Fr.cell (S:=(· =T+1)) ?_ d7 s5,Fr.cell (S:=(· =T+1)) ?_ dg s6,Fr.cell (S:=(· =T+1)) ?_ dg s9⟩<;> (repeat(first|(with_reducible exact Fr.refl _)|(with_reducible refine Fr.drew ?_)|(with_reducible refine Fr.setIn ?_ _ rfl)))) (fun hHeld=>?_);clear hK K
      try simp only[qa,qb,qc,Act.put,qd,qe,qf]
      refine dP (v:=?_) 30 rfl rfl (by kernel_rfl) (by rfl) (fun _ _ _ h=>h) ?_ hHeld ?_;rotate_left
      ·intro w hSw
       (try dsimp only at hSw)
       go_simp
       try with_reducible rfl
      try simp only[qa,qb,qc,Act.put,qd,qe,qf]
      refine wpAnyH_ready (rs:=[31]) (by kernel_rfl) (by simp) ?_;refine AllReadyH.cons rfl (fun K hK=>?_) AllReadyH.nil;go_simp;refine hK.out _ _ (by refine⟨Fr.cell (S:=(· =T+1)) ?_ d7 s5,Fr.cell (S:=(· =T+1)) ?_ dg s6,Fr.cell (S:=(· =T+1)) ?_ dg s9⟩<;> (repeat(first|(with_reducible exact Fr.refl _)|(with_reducible refine Fr.drew ?_)|(with_reducible refine Fr.setIn ?_ _ rfl)))) (fun hHeld=>?_);clear hK K
      try simp only[qa,qb,qc,Act.put,qd,qe,qf]
      refine wpAnyH_done (by kernel_rfl) ?_ _;have hb9:(((x.setCell ⟨T+1,1,none⟩ (.bool false)).setCell ⟨T+1,2,none⟩ (.bool b3)).drew).heap[T+1]? =some (.cells #[.string yt,.bool false,.bool b3] 57 (0,0)):=(ag (ag X.2.2.1 1 (.bool false)) 2 (.bool b3)).trans rfl;have fz:Fr (· =T+1) x (((x.setCell ⟨T+1,1,none⟩ (.bool false)).setCell ⟨T+1,2,none⟩ (.bool b3)).drew):=(((Fr.refl x).setIn (S:=(· =T+1)) (p:=⟨T+1,1,none⟩) (.bool false) rfl).setIn (p:=⟨T+1,2,none⟩) (.bool b3) rfl).drew;have hpq:(false,b3)=(pub,weak):=by rw[HPUB.out,HWEAK.out,hb3,show(xt.toList==fj)=false from hb1,show(xt.toList==kh)=true from hb2];simp
      refine iH (fun Y=>Hid (Fr (· =T+1) x Y∧Y.heap[T+1]? =some (.cells #[.string yt,.bool false,.bool b3] 57 (0,0)))) (Z ⟨fz,hb9⟩) ?_;intro Y HY;clear hb9 fz;have kY:Keep wr Y:=X.1.andThen HY.1 (fun i hi e=>by have e':i=T+1:=e;have:=HTT.out;omega);have hrY:=aj HR.2.1 kY (fun _ _ e=>e);have z0:Y.cell? ⟨T+1,0,none⟩=some (.string yt):=ab HY.2 0;have z1:Y.cell? ⟨T+1,1,none⟩=some (.bool false):=ab HY.2 1;have z2:Y.cell? ⟨T+1,2,none⟩=some (.bool b3):=ab HY.2 2;have HRA:=Z (aj hrY ((Fr.refl Y).alloc (.cells #[.string yt,.bool false,.bool b3] 57)) (fun _ _ e=>e));have HBA:=Z (Nat.le_trans HR.1.size ((kY.alloc (.cells #[.string yt,.bool false,.bool b3] 57)).size));have HKY:=Z kY;have HRY:=Z hrY;clear kY hrY s5 s6 s9 y1 y2 f1 f2 l8;go_wp2_with (refine appV 32 57 _ 3 24 underlying32 lP rfl (by decide) (by decide) (m:=is.length) HRA.out HBA.out hij (cs:=#[.string yt,.bool false,.bool b3]) rfl (by simp[Value.oneCell']) (ql Y _) (by rfl) (by rfl) ?_;intro v' w' hv hr f hos;have HRN:=Z hr;have HFN:=Z f;clear hr f hos hv);go_roundg (ns.length- (j+1))
      case rel=>
       refine⟨j+1,is++ [(yt,false,b3)],t,rfl,rfl,by simp,hlt,by simp;omega,Z ⟨((HR.1.trans HKY.out).alloc _).andThen HFN.out (fun i hi e=>by have:=(ar HRY.out e).1;omega),?_,?_⟩⟩
       ·have h:=HRN.out;simpa[dc] using h
       ·rw[HFT.out,←HD.out,←HR.2.2];simp only[jL,fe,List.map_append,List.map_cons,List.map_nil,HTY.out];rw[show pub=false from(congrArg Prod.fst hpq).symm,show weak=b3 from(congrArg Prod.snd hpq).symm]
      case measure=>omega
     ·refine wp_region_held_drew (S:=(fun w'=>w'.cell? ⟨T,5,none⟩=some (.slice (some ⟨g2,0,none⟩) (q+2) a7)∧w'.cell? ⟨g2,6,none⟩=some (.int .i64 xk)∧w'.cell? ⟨g2,9,none⟩=some (.string xt))) (by kernel_rfl) ⟨s5,s6,s9⟩ (fun hHeld=>?_);refine wpAnyH_take (i:=0) (v:=?_) rfl (by kernel_rfl) (by kernel_rfl) (by kernel_rfl) (fun _ _ _ h=>h) (Or.inl ⟨by rfl,?_⟩) hHeld ?_;rotate_left
      ·intro w hSw
       (try dsimp only at hSw)
       go_simp
       try with_reducible rfl
      try simp only[List.getElem_toArray,Act.put,List.setIfInBounds_toArray]
      iterate 20
       refine dP (v:=?_) 1 rfl rfl (by kernel_rfl) (by rfl) (fun _ _ _ h=>h) ?_ hHeld ?_;rotate_left
       ·intro w hSw
        (try dsimp only at hSw)
        go_simp
        try with_reducible rfl
       try simp only[qa,qb,qc,Act.put,qd,qe,qf]
      iterate 6
       refine vI 21 rfl rfl (by kernel_rfl) (by rfl) (fun _ _ _ h=>h) hHeld ?_
       try simp only[qa,qb,qc,Act.put,qd,qe,qf]
      iterate 2
       refine dP (v:=?_) 27 rfl rfl (by kernel_rfl) (by rfl) (fun _ _ _ h=>h) ?_ hHeld ?_;rotate_left
       ·intro w hSw
        (try dsimp only at hSw)
        go_simp
        try with_reducible rfl
       try simp only[qa,qb,qc,Act.put,qd,qe,qf]
      refine wpAnyH_ready (rs:=[29]) (by kernel_rfl) (by simp) ?_;refine AllReadyH.cons rfl (fun K hK=>?_) AllReadyH.nil;go_simp;refine hK.out _ _ (by refine⟨Fr.cell (S:=(· =T+1)) ?_ d7 s5,Fr.cell (S:=(· =T+1)) ?_ dg s6,Fr.cell (S:=(· =T+1)) ?_ dg s9⟩<;> (repeat(first|(with_reducible exact Fr.refl _)|(with_reducible refine Fr.drew ?_)|(with_reducible refine Fr.setIn ?_ _ rfl)))) (fun hHeld=>?_);clear hK K
      try simp only[qa,qb,qc,Act.put,qd,qe,qf]
      refine dP (v:=?_) 30 rfl rfl (by kernel_rfl) (by rfl) (fun _ _ _ h=>h) ?_ hHeld ?_;rotate_left
      ·intro w hSw
       (try dsimp only at hSw)
       go_simp
       try with_reducible rfl
      try simp only[qa,qb,qc,Act.put,qd,qe,qf]
      refine wpAnyH_ready (rs:=[31]) (by kernel_rfl) (by simp) ?_;refine AllReadyH.cons rfl (fun K hK=>?_) AllReadyH.nil;go_simp;refine hK.out _ _ (by refine⟨Fr.cell (S:=(· =T+1)) ?_ d7 s5,Fr.cell (S:=(· =T+1)) ?_ dg s6,Fr.cell (S:=(· =T+1)) ?_ dg s9⟩<;> (repeat(first|(with_reducible exact Fr.refl _)|(with_reducible refine Fr.drew ?_)|(with_reducible refine Fr.setIn ?_ _ rfl)))) (fun hHeld=>?_);clear hK K
      try simp only[qa,qb,qc,Act.put,qd,qe,qf]
      refine wpAnyH_done (by kernel_rfl) ?_ _;have hb9:(((x.setCell ⟨T+1,1,none⟩ (.bool b3)).setCell ⟨T+1,2,none⟩ (.bool false)).drew).heap[T+1]? =some (.cells #[.string yt,.bool b3,.bool false] 57 (0,0)):=(ag (ag X.2.2.1 1 (.bool b3)) 2 (.bool false)).trans rfl;have fz:Fr (· =T+1) x (((x.setCell ⟨T+1,1,none⟩ (.bool b3)).setCell ⟨T+1,2,none⟩ (.bool false)).drew):=(((Fr.refl x).setIn (S:=(· =T+1)) (p:=⟨T+1,1,none⟩) (.bool b3) rfl).setIn (p:=⟨T+1,2,none⟩) (.bool false) rfl).drew;have hpq:(b3,false)=(pub,weak):=by rw[HPUB.out,HWEAK.out,hb3,show(xt.toList==fj)=true from hb1,show(xt.toList==kh)=false from hb2];simp
      refine iH (fun Y=>Hid (Fr (· =T+1) x Y∧Y.heap[T+1]? =some (.cells #[.string yt,.bool b3,.bool false] 57 (0,0)))) (Z ⟨fz,hb9⟩) ?_;intro Y HY;clear hb9 fz;have kY:Keep wr Y:=X.1.andThen HY.1 (fun i hi e=>by have e':i=T+1:=e;have:=HTT.out;omega);have hrY:=aj HR.2.1 kY (fun _ _ e=>e);have z0:Y.cell? ⟨T+1,0,none⟩=some (.string yt):=ab HY.2 0;have z1:Y.cell? ⟨T+1,1,none⟩=some (.bool b3):=ab HY.2 1;have z2:Y.cell? ⟨T+1,2,none⟩=some (.bool false):=ab HY.2 2;have HRA:=Z (aj hrY ((Fr.refl Y).alloc (.cells #[.string yt,.bool b3,.bool false] 57)) (fun _ _ e=>e));have HBA:=Z (Nat.le_trans HR.1.size ((kY.alloc (.cells #[.string yt,.bool b3,.bool false] 57)).size));have HKY:=Z kY;have HRY:=Z hrY;clear kY hrY s5 s6 s9 y1 y2 f1 f2 l8;go_wp2_with (refine appV 32 57 _ 3 24 underlying32 lP rfl (by decide) (by decide) (m:=is.length) HRA.out HBA.out hij (cs:=#[.string yt,.bool b3,.bool false]) rfl (by simp[Value.oneCell']) (ql Y _) (by rfl) (by rfl) ?_;intro v' w' hv hr f hos;have HRN:=Z hr;have HFN:=Z f;clear hr f hos hv);go_roundg (ns.length- (j+1))
      case rel=>
       refine⟨j+1,is++ [(yt,b3,false)],t,rfl,rfl,by simp,hlt,by simp;omega,Z ⟨((HR.1.trans HKY.out).alloc _).andThen HFN.out (fun i hi e=>by have:=(ar HRY.out e).1;omega),?_,?_⟩⟩
       ·have h:=HRN.out;simpa[dc] using h
       ·rw[HFT.out,←HD.out,←HR.2.2];simp only[jL,fe,List.map_append,List.map_cons,List.map_nil,HTY.out];rw[show pub=b3 from(congrArg Prod.fst hpq).symm,show weak=false from(congrArg Prod.snd hpq).symm]
      case measure=>omega
     ·rw[beq_iff_eq] at hb1 hb2;rw[hb1] at hb2;cases hb2
   ·have q4:(a0==4)=false:=by rw[hx];rfl
    have q5:(a0==5)=false:=by rw[hx];rfl
    have hle:ds.length≤j:=by have:=HL.out;omega
    have HT2:=Z (show(ds.take (j+1)).foldl fe ([],[])=(ds.take j).foldl fe ([],[]) by rw[List.take_of_length_le (by omega),List.take_of_length_le hle]);clear hx hle hje;go_wp2_with fail;go_roundg (ns.length- (j+1))
    case rel=>exact⟨j+1,is,t,rfl,rfl,by simp,hlt,by omega,Z ⟨HR.1.alloc _,aj HR.2.1 ((Fr.refl wr).alloc _) (fun _ _ e=>e),by rw[HT2.out];exact HR.2.2⟩⟩
    case measure=>omega
  ·have hltz:¬ (j:Int) < (ns.length:Int):=by omega
   go_wp2_with fail;refine qh (results_tmp2 results9 _ _ _) rfl ⟨is,t,_,rfl,HR.1,HR.2.1,by have:=HL1.out;omega,?_⟩;have h:=HR.2.2
   rwa [List.take_of_length_le (by have:=HL.out;have:=HL1.out;omega)] at h
end Go.Proofs.YtnclklfhjbkjhaaGreatDoor
