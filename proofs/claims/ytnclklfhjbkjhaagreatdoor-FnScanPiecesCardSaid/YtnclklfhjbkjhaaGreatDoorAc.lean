/- Part of the proof: A7 A8 A9 B0 B1 B2 B3. -/
import Derived.Test.YtnclklfhjbkjhaaGreatDoorAb
import Derived.Deep.RegionHeld2
set_option maxRecDepth 1000000
set_option maxHeartbeats 40000000
namespace Go.Proofs.YtnclklfhjbkjhaaGreatDoor
open Tryz
open Go.RowKit
theorem c_{w:World}{b:Nat}{v0 v1 v2 v3 v4 v5:Value}(z:w.heap[b]? =some (.cells #[v0,v1,v2,v3,v4,v5] 26 (0,0))):
  w.cell? ⟨b,0,none⟩=some v0∧w.cell? ⟨b,1,none⟩=some v1∧w.cell? ⟨b,2,none⟩=some v2∧w.cell? ⟨b,3,none⟩=some v3∧w.cell? ⟨b,4,none⟩=some v4∧w.cell? ⟨b,5,none⟩=some v5∧
  w.frozen? ⟨b,0,none⟩=false∧w.frozen? ⟨b,1,none⟩=false∧w.frozen? ⟨b,2,none⟩=false∧w.frozen? ⟨b,3,none⟩=false∧w.frozen? ⟨b,4,none⟩=false∧w.frozen? ⟨b,5,none⟩=false:=
 ⟨ab z 0,ab z 1,ab z 2,ab z 3,ab z 4,ab z 5,ae z 0,ae z 1,ae z 2,ae z 3,ae z 4,ae z 5⟩
theorem lg{w:World}{b:Nat}{v0 v1 v2 v3 v4 v5 u0 u1 u2 u3 u4 u5:Value}(z:w.heap[b]? =some (.cells #[v0,v1,v2,v3,v4,v5] 26 (0,0))):
  (((((w.setCell ⟨b,0,none⟩ u0).setCell ⟨b,1,none⟩ u1).setCell ⟨b,2,none⟩ u2).setCell ⟨b,3,none⟩ u3).setCell ⟨b,4,none⟩ u4).setCell ⟨b,5,none⟩ u5=w.setRow b #[u0,u1,u2,u3,u4,u5]:=by
 have s:∀ (w:World) (cs:Array Value) (i:Nat) (u:Value),w.heap[b]? =some (.cells cs 26 (0,0))→w.setCell ⟨b,i,none⟩ u=w.setRow b (cs.setIfInBounds i u):=fun w cs i u h=>setCell_eq_setRow w b i cs 26 (0,0) u h
 have h:∀ (w:World) (cs cs':Array Value),w.heap[b]? =some (.cells cs 26 (0,0))→(w.setRow b cs').heap[b]? =some (.cells cs' 26 (0,0)):=fun w cs cs' h=>setRow_heap w b cs cs' 26 (0,0) h
 rw[s _ _ 0 u0 z,s _ _ 1 u1 (h _ _ _ z),setRow_setRow,s _ _ 2 u2 (h _ _ _ z),setRow_setRow,s _ _ 3 u3 (h _ _ _ z),setRow_setRow,s _ _ 4 u4 (h _ _ _ z),setRow_setRow,s _ _ 5 u5 (h _ _ _ z),setRow_setRow];rfl
theorem Env.d11{c:PC}{a:Nat}{m:Bool}{w0 w:World}{bs:List (Nat×Array Value)}{ks:List (Value×List Nd)}{b:Nat}{cs:Array Value}{v:Value}{l:List Nd}(h:Env c a m w0 ((b,cs) ::bs) ((v,l) ::ks) w):v.ownBlock≠some b:=
 h.dis (b,cs) List.mem_cons_self (v,l) List.mem_cons_self
theorem Env.fin{c:PC}{a:Nat}{m:Bool}{w0 w:World}{bs:List (Nat×Array Value)}{ks:List (Value×List Nd)}(h:Env c a m w0 bs ks w){b:Nat}(hb:w0.heap.size≤b)(cs:Array Value):PSt c a m (w.setRow b cs)∧Fr (· =c.bp) w0 (w.setRow b cs):=
 ⟨h.st.setRow _ _ (by have:=h.bp0;omega) (by have:=h.bt0;omega),h.fr.setRow _ _ hb⟩
theorem aS{c:PC}{a1 a:Nat}{m:Bool}{w0 w:World}{bs:List (Nat×Array Value)}{ks:List (Value×List Nd)}{G:Nat→Int→Int→Int→ByteArray→Int→Value→World→Prop}{fn:Func}{p:Tmp}{ac:Act}{b:Nat}{cs:Array Value}{k f l n:Int}{t:ByteArray}{ka:Option Addr}{kn kc:Nat}
  (E:RowKit.Hid (Env c a m w0 ((b,cs) ::bs) ks w)) (hlt:a1<a) (hG:G a k f l t n (.slice ka kn kc) (w.setRow b #[.int .i64 k,.int .i64 f,.int .i64 l,.string t,.int .u64 n,.slice ka kn kc])) (hfn:fn.results=#[.cell p 26]) (hp:ac.tmps.getD p undef= .pointer (some ⟨b,0,none⟩)) (hd:ac.defers=[]):
  bodyPost prog fn (NPost c a1 m w0 G) .ret ac (w.setRow b #[.int .i64 k,.int .i64 f,.int .i64 l,.string t,.int .u64 n,.slice ka kn kc]):=
 qh (aN hfn (setRow_heap _ _ _ _ _ _ E.z1) hp) hd (.inl ⟨a,_,_,_,_,_,_,_,_,rfl,(E.fin (E.blk (b,cs) (by simp)).1 _).1,(E.fin (E.blk (b,cs) (by simp)).1 _).2,hlt,hG⟩)
def G1(c:PC)(s:ByteArray)(at_:Nat)(at':Nat)(_ _ _:Int)(t:ByteArray)(_:Int)(_:Value)(_:World):Prop:=at'=at_+1∧aH (tk c.ts at_) s=true∧t=(tk c.ts at_).raw
theorem RPost.np{c:PC}{kind:Int}{s:ByteArray}{at_:Nat}{mild:Bool}{w:World}{e:Ending}{w':World}(h:RPost c kind s at_ mild w e w'):NPost c at_ mild w (G1 c s at_) e w':=by
 rcases h with⟨h1,rfl,h2,h3⟩|h
 ·exact .inl ⟨at_+1,_,_,_,_,_,_,_,_,rfl,h2,h3,by omega,rfl,h1,rfl⟩
 ·exact .inr h
theorem ak(c:PC)(s:ByteArray)(at_:Nat)(mild:Bool)(w:World)(h:PSt c at_ mild w):
  Calls prog 48 #[.pointer (some ⟨c.bp,0,none⟩),.string s] w (NPost c at_ mild w (G1 c s at_)):=(eJ c s at_ mild w h).mono fun _ _=>RPost.np
theorem aY(c:PC)(s:ByteArray)(at_:Nat)(mild:Bool)(w:World)(h:PSt c at_ mild w):
  Calls prog 47 #[.pointer (some ⟨c.bp,0,none⟩),.string s] w (NPost c at_ mild w (G1 c s at_)):=(rb c s at_ mild w h).mono fun _ _=>RPost.np
def GN(c:PC)(at_:Nat)(at':Nat)(_ _ _:Int)(t:ByteArray)(_:Int)(_:Value)(_:World):Prop:=at'=at_+1∧(tk c.ts at_).kind=1∧t=(tk c.ts at_).raw
theorem a_(c:PC)(at_:Nat)(mild:Bool)(w:World)(h:PSt c at_ mild w):
  Calls prog 79 #[.pointer (some ⟨c.bp,0,none⟩)] w (NPost c at_ mild w (GN c at_)):=(eR c at_ mild w h).mono fun _ _ h=>by
 rcases h with⟨h1,rfl,h2,h3⟩|h
 ·exact .inl ⟨at_+1,_,_,_,_,_,_,_,_,rfl,h2,h3,by omega,rfl,h1,rfl⟩
 ·exact .inr h
def GW(c:PC)(at_:Nat)(at':Nat)(_ _ _:Int)(_:ByteArray)(_:Int)(_:Value)(_:World):Prop:=at'=at_+1∧(tk c.ts at_).kind=2
theorem bK(c:PC)(at_:Nat)(mild:Bool)(w:World)(h:PSt c at_ mild w):
  Calls prog 121 #[.pointer (some ⟨c.bp,0,none⟩)] w (NPost c at_ mild w (GW c at_)):=(pU c at_ mild w h).mono fun _ _ h=>by
 rcases h with⟨h1,rfl,h2,h3⟩|h
 ·exact .inl ⟨at_+1,_,_,_,_,_,_,_,_,rfl,h2,h3,by omega,rfl,h1⟩
 ·exact .inr h
def GL(c:PC)(at_:Nat)(at':Nat)(k _ _:Int)(t:ByteArray)(_:Int)(_:Value)(_:World)(kind:Int):Prop:=at'=at_+1∧k=kind∧t=au (tk c.ts at_)
theorem bm(c:PC)(kind:Int)(at_:Nat)(mild:Bool)(w:World)(h:PSt c at_ mild w)(hk:(tk c.ts at_).kind≠6):
  Calls prog 26 #[.pointer (some ⟨c.bp,0,none⟩),.int .i64 kind] w (NPost c at_ mild w fun at' k f l t n ks w'=>GL c at_ at' k f l t n ks w' kind):=(eT c kind at_ mild w h hk).mono fun _ _ h=>by
 obtain⟨rfl,h2,h3⟩:=h;exact .inl ⟨at_+1,_,_,_,_,_,_,_,_,rfl,h2,h3,by omega,rfl,rfl,rfl⟩
theorem PC.sym(c:PC){i:Nat}(hi:i<c.ts.length){b:UInt8}(h:aH (tk c.ts i) ⟨#[b]⟩=true)(hb:¬ (b=95∨(97≤b∧b≤122)∨(65≤b∧b≤90))):(tk c.ts i).kind=5∧(tk c.ts i).raw.toList=[b]:=
 pz (c.wf i hi) (qp [b]) hb h
theorem bW{c:PC}{i:Nat}(hi:i<c.ts.length)(h:(tk c.ts i).kind≠5):aH (tk c.ts i) ⟨#[45]⟩=false:=by
 cases e:aH (tk c.ts i) ⟨#[45]⟩
 ·rfl
 ·exact absurd (c.sym hi e (by decide)).1 h
theorem aF{c:PC}{i:Nat}{b:UInt8}(h:aH (tk c.ts i) ⟨#[b]⟩=true)(hb:b≠45):aH (tk c.ts i) ⟨#[45]⟩=false:=by
 cases e:aH (tk c.ts i) ⟨#[45]⟩
 ·rfl
 ·have h1:=(dF h).symm.trans (dF e);rw[show(⟨#[b]⟩:ByteArray).toList=[b] from qp [b],show(⟨#[45]⟩:ByteArray).toList=[45] from qp [45]] at h1;exact absurd (List.cons.inj h1).1 hb
theorem NGa.of{ts:List Tk}{m:Nat}(h:aH (tk ts m) ⟨#[45]⟩=false):NGa ts m:=fun e=>by rw[h] at e;cases e.2
theorem PSeg.out{c:PC}{i j:Nat}{t:List UInt8}(h:PSeg c.ts i j t)(hj:j≤c.ts.length):Out c.ts i j∧(tk c.ts (j-1)).kind=1∧(tk c.ts i).kind=1∧i<j:=by
 induction h with
 |one h=>exact⟨Out.plain (.inl h),h,h,by omega⟩
 | @more j t h1 h2 h3 ih=>
  obtain⟨o,l,f,lt⟩:=ih (by omega);have s:=c.sym (i:=j) (by omega) h2 (by decide);refine⟨(o.trans (Out.sym s (by decide)) (NGa.prev (by rw[l];decide))).trans (Out.plain (.inl h3)) (NGa.prev (by rw[show j+1-1=j from rfl,s.1];decide)),?_,f,by omega⟩;rw[show j+2-1=j+1 from rfl];exact h3
theorem PathG.out{c:PC}{dot:Bool}{a a':Nat}{k f l:Int}{t:ByteArray}{n:Int}{v:Value}{w:World}(h:PathG c dot a a' k f l t n v w)(ha:a'≤c.ts.length):Out c.ts a a'∧(tk c.ts (a'-1)).kind=1∧aH (tk c.ts a) ⟨#[45]⟩=false∧a<a':=by
 rcases h with h|⟨_,h1,t',h2⟩
 ·obtain⟨o,l,f,lt⟩:=h.out ha;exact⟨o,l,bW (by omega) (by rw[f];decide),lt⟩
 ·obtain⟨o,l,f,lt⟩:=h2.out ha;have s:=c.sym (i:=a) (by omega) h1 (by decide);exact⟨(Out.sym s (by decide)).trans o (NGa.prev (by rw[show a+1-1=a from rfl,s.1];decide)),l,aF h1 (by decide),by omega⟩
def GO(c:PC)(at_:Nat)(at':Nat)(_ _ _:Int)(_:ByteArray)(_:Int)(_:Value)(_:World):Prop:=Out c.ts at_ at'∧(tk c.ts (at'-1)).kind≠2∧aH (tk c.ts at_) ⟨#[45]⟩=false
theorem rX{c:PC}{a a1 a2 a3:Nat}(h3:a3≤c.ts.length)(e1:a1=a+1)(s1:aH (tk c.ts a) ⟨#[40]⟩=true)(o:Out c.ts a1 a2)(e3:a3=a2+1)(s3:aH (tk c.ts a2) ⟨#[41]⟩=true):
  Out c.ts a a3∧(tk c.ts (a3-1)).kind≠2∧aH (tk c.ts a) ⟨#[45]⟩=false:=by
 subst e1;subst e3;have hle:=o.seg.le;have y1:=c.sym (i:=a) (by omega) s1 (by decide);have y3:=c.sym (i:=a2) (by omega) s3 (by decide);exact⟨Out.wrap y1 y3 (by simp) o.set.inr,by rw[show a2+1-1=a2 from rfl,y3.1];decide,aF s1 (by decide)⟩
theorem cD{c:PC}{a a1:Nat}(h1:a1≤c.ts.length)(e1:a1=a+1)(k:(tk c.ts a).kind=1):Out c.ts a a1∧(tk c.ts (a1-1)).kind≠2∧aH (tk c.ts a) ⟨#[45]⟩=false:=by
 subst e1;exact⟨Out.plain (.inl k),by rw[show a+1-1=a from rfl,k];decide,bW (by omega) (by rw[k];decide)⟩
theorem mM(c:PC)(at_:Nat)(mild:Bool)(w:World)(h:PSt c at_ mild w):
  Calls prog 142 #[.pointer (some ⟨c.bp,0,none⟩)] w (NPost c at_ mild w (GO c at_)):=by
 have E0:=Z (Env.start h);clear h;go_enter func142,ntmps142;go_wp2_with fail;have E1:=Z (E0.allocZ);refine bO E1 (fun wa E2=>?_);cases h1:aH (tk c.ts at_) {data:=#[40]}
 ·go_wp2_with fail;refine nC (a_ c at_ mild _ E2.st) E2 (fun _ _ p=>?_) (fun w2 at2 k2 f2 l2 t2 n2 ka2 kn2 kc2 HG2 HL2 E3=>?_)
  ·go_wp2_with fail;exact⟨rfl,.inr p⟩
  go_wp2_with (refine bs1 rfl ?_;refine Hid.out ?_);refine Z ?_;have E4:=Z (E3.addNew [Nd.mk k2 f2 l2 t2 n2 ka2 kn2 kc2] _ rfl (by simp));go_wp2_with fail;refine kC (node_any w.heap.size 8 _ [Nd.mk k2 f2 l2 t2 n2 ka2 kn2 kc2] _ E4.k1 (by simp) (by simp)) E4 (fun wb E5=>?_);go_wp2_with (refine aw E5.z1 rfl rfl rfl ?_);exact aS E5 HL2 (cD (by have:=E5.st.lt;omega) HG2.1 HG2.2.1) rfl rfl rfl
 ·go_wp2_with fail;refine nC (ak c _ at_ mild _ E2.st) E2 (fun _ _ p=>?_) (fun w2 at2 k2 f2 l2 t2 n2 ka2 kn2 kc2 HG2 HL2 y=>?_)
  ·go_wp2_with fail;exact⟨rfl,.inr p⟩
  have LT2:=Z (af y.out.z1);have E3:=Z (y.out.alloc #[.int .i64 k2,.int .i64 f2,.int .i64 l2,.string t2,.int .u64 n2,.slice ka2 kn2 kc2]);clear y;go_wp2_with fail;refine(dk c at2 mild _ E3.st).mono ?_;rintro e w3 (⟨at3,k3,f3,l3,t3,n3,ka3,kn3,kc3,rfl,hP,F,hlt,hG⟩|⟨ch,rfl,hS,F⟩);rotate_left
  ·go_wp2_with fail;exact⟨rfl,.inr (E3.pan ⟨ch,rfl,hS,F⟩)⟩
  have HG3:=Z hG;have HL3:=Z hlt;have LT3:=Z (af (E3.call hP F).z2);have E4:=Z ((E3.call hP F).alloc #[.int .i64 k3,.int .i64 f3,.int .i64 l3,.string t3,.int .u64 n3,.slice ka3 kn3 kc3]);clear hP F hG hlt;go_wp2_with fail;refine aG (fun x0=>Hid (Env c at3 mild w [(w3.heap.size,#[.int .i64 k3,.int .i64 f3,.int .i64 l3,.string t3,.int .u64 n3,.slice ka3 kn3 kc3]),(w2.heap.size,#[.int .i64 k2,.int .i64 f2,.int .i64 l2,.string t2,.int .u64 n2,.slice ka2 kn2 kc2]),(w.heap.size,#[.int .i64 0,.int .i64 0,.int .i64 0,.string ⟨#[]⟩,.int .u64 0,.slice none 0 0])] [] x0)) E4 ?_;intro x0 X0;generalize w3.heap.size=b3 at*
  generalize w2.heap.size=b2 at*
  have cb3:∀ (w':World) (o:Nat),w'.heap[b3]? =some (.cells #[.int .i64 k3,.int .i64 f3,.int .i64 l3,.string t3,.int .u64 n3,.slice ka3 kn3 kc3] 26 (0,0))→w'.cell? ⟨b3,o,none⟩=(#[.int .i64 k3,.int .i64 f3,.int .i64 l3,.string t3,.int .u64 n3,.slice ka3 kn3 kc3]:Array Value)[o]? :=fun _ o z=>ab z o
  have cb2:∀ (w':World) (o:Nat),w'.heap[b2]? =some (.cells #[.int .i64 k2,.int .i64 f2,.int .i64 l2,.string t2,.int .u64 n2,.slice ka2 kn2 kc2] 26 (0,0))→w'.cell? ⟨b2,o,none⟩=(#[.int .i64 k2,.int .i64 f2,.int .i64 l2,.string t2,.int .u64 n2,.slice ka2 kn2 kc2]:Array Value)[o]? :=fun _ o z=>ab z o
  have N3:b3≠c.bp:=by have:=(X0).lt1.1;have:=X0.bp0;omega
  have D3:b3≠w.heap.size:=by have:=LT3.out;omega
  have Z3:=Keep.blk ((Fr.refl x0).drew) X0.z1;have N2:b2≠c.bp:=by have:=(X0.dropB).lt1.1;have:=X0.bp0;omega
  have D2:b2≠w.heap.size:=by have:=LT2.out;omega
  have Z2:=Keep.blk ((Fr.refl x0).drew) X0.z2;have N0:w.heap.size≠c.bp:=by have:=X0.bp0;omega
  have Z0:=Keep.blk ((Fr.refl x0).drew) X0.z3;have X1:=Z (X0.keep ((Fr.refl x0).drew));go_region_held2 (fun w'=>w'.heap[b3]? =some (.cells #[.int .i64 k3,.int .i64 f3,.int .i64 l3,.string t3,.int .u64 n3,.slice ka3 kn3 kc3] 26 (0,0))∧w'.heap[b2]? =some (.cells #[.int .i64 k2,.int .i64 f2,.int .i64 l2,.string t2,.int .u64 n2,.slice ka2 kn2 kc2] 26 (0,0)))
   (first|with_reducible exact⟨Z3,Z2⟩|with_reducible exact⟨F5.blk N3 Z3,F5.blk N2 Z2⟩|with_reducible exact⟨Keep.blk ((Fr.refl _).alloc _) (F5.blk N3 Z3),Keep.blk ((Fr.refl _).alloc _) (F5.blk N2 Z2)⟩|with_reducible exact⟨Keep.blk k6 (Keep.blk ((Fr.refl _).alloc _) (F5.blk N3 Z3)),Keep.blk k6 (Keep.blk ((Fr.refl _).alloc _) (F5.blk N2 Z2))⟩|(refine⟨Fr.blk (S:=(· =w.heap.size)) ?_ D3 (Keep.blk k6 (Keep.blk ((Fr.refl _).alloc _) (F5.blk N3 Z3))),Fr.blk (S:=(· =w.heap.size)) ?_ D2 (Keep.blk k6 (Keep.blk ((Fr.refl _).alloc _) (F5.blk N2 Z2)))⟩<;> (repeat(first|(with_reducible exact Fr.refl _)|(with_reducible refine Fr.setIn ?_ _ rfl)))))
   (first|(go_at_call 48;refine(ak c _ at3 mild _ X1.st).mono ?_;rintro e w4 (⟨at4,k4,f4,l4,t4,n4,ka4,kn4,kc4,rfl,hP5,F5,hlt,hG⟩|⟨ch,rfl,hS,F⟩);rotate_left;(exact⟨rfl,.inr (X1.pan ⟨ch,rfl,hS,F⟩)⟩))|(go_at_call 27;refine(node_any w.heap.size 8 _ [Nd.mk k2 f2 l2 t2 n2 ka2 kn2 kc2,Nd.mk k3 f3 l3 t3 n3 ka3 kn3 kc3,Nd.mk k4 f4 l4 t4 n4 ka4 kn4 kc4] _ ((X1.call hP5 F5).addNew _ _ rfl (by simp)).k1 (by simp) (by simp)).mono ?_;rintro e w6 ⟨rfl,k6⟩;obtain⟨r0,r1,r2,r3,r4,r5,g0,g1,g2,g3,g4,g5⟩:=c_ (k6.blk (Keep.blk ((Fr.refl w4).alloc (.cells _ 26)) (F5.blk N0 Z0)))))
  have E5:=Z ((((X1.call hP5 F5).addNew [Nd.mk k2 f2 l2 t2 n2 ka2 kn2 kc2,Nd.mk k3 f3 l3 t3 n3 ka3 kn3 kc3,Nd.mk k4 f4 l4 t4 n4 ka4 kn4 kc4] _ rfl (by simp)).dropK).keep k6);have HG4:=Z hG;have HL4:=Z hlt;have Z6:=Z E5.z3;rw[lg Z6.out];clear r0 r1 r2 r3 r4 r5 g0 g1 g2 g3 g4 g5 hG hlt hP5 F5 k6 N0 Z0 cb3 N3 D3 Z3 cb2 N2 D2 Z2;go_wp2_with fail;refine qh (aN rfl (setRow_heap _ _ _ _ _ _ Z6) rfl) rfl ?_;exact .inl ⟨at4,_,_,_,_,_,_,_,_,rfl,(E5.fin qr _).1,(E5.fin qr _).2,by have:=HL2.out;have:=HL3.out;have:=HL4.out;omega,rX (by have:=E5.st.lt;omega) HG2.1 HG2.2.1 (HG3.out.out (by have:=E5.st.lt;have:=HL4.out;omega)).1 HG4.1 HG4.2.1⟩
inductive SSeg(ts:List Tk):Nat→Nat→List UInt8→Prop where
 |one {i:Nat}:(tk ts i).kind=4→SSeg ts i (i+1) (tk ts i).val.toList
 |more {i j:Nat} {t:List UInt8}:SSeg ts i j t→(tk ts j).kind=4→SSeg ts i (j+1) (t++ (tk ts j).val.toList)
def GT(c:PC)(at_:Nat)(at':Nat)(_ _ _:Int)(t:ByteArray)(_:Int)(_:Value)(_:World):Prop:=SSeg c.ts at_ at' t.toList
def TRel(c:PC)(at_ a:Nat)(s:ByteArray)(ns:List Nd):Prop:=
 (a=at_∧ns=[]∧s=⟨#[]⟩)∨(SSeg c.ts at_ a s.toList∧ns≠[]∧at_<a∧(ns.length=1→∀x∈ns,x.text.toList=s.toList∧x.kind=32))
theorem TRel.step{c:PC}{at_ a a':Nat}{s:ByteArray}{ns:List Nd}{x:Nd}(h:TRel c at_ a s ns)(hk:(tk c.ts a).kind=4)(ha:a'=a+1)(hx:x.text=au (tk c.ts a))(hxk:x.kind=32):TRel c at_ a' (s++x.text) (ns++ [x]):=by
 subst ha;have hl:au (tk c.ts a)=(tk c.ts a).val:=by simp[au,hk]
 rw[hl] at hx;rcases h with⟨rfl,rfl,rfl⟩|⟨h1,h2,h3,h4⟩
 ·have e:(({data:=#[]}:ByteArray) ++x.text).toList=x.text.toList:=by rw[ed,show({data:=#[]}:ByteArray).toList=[] from qp []];rfl
  refine .inr ⟨by rw[e,hx];exact SSeg.one hk,by simp,by omega,fun _ y hy=>?_⟩;simp only[List.nil_append,List.mem_singleton] at hy;exact⟨by rw[hy,e],by rw[hy,hxk]⟩
 ·refine .inr ⟨by rw[ed,hx];exact SSeg.more h1 hk,by simp,by omega,fun e=>?_⟩;simp only[qk,List.length_singleton] at e;exact absurd (List.eq_nil_of_length_eq_zero (by omega)) h2
theorem TRel.done{c:PC}{at_ a:Nat}{s:ByteArray}{ns:List Nd}(h:TRel c at_ a s ns)(h0:(tk c.ts at_).kind=4)(hk:(tk c.ts a).kind≠4):SSeg c.ts at_ a s.toList∧ns≠[]∧at_<a∧(ns.length=1→∀x∈ns,x.text.toList=s.toList∧x.kind=32):=by
 rcases h with⟨rfl,_,_⟩|h
 ·exact absurd h0 hk
 ·exact h
theorem fh(c:PC)(at_:Nat)(mild:Bool)(w:World)(h:PSt c at_ mild w):
  Calls prog 49 #[.pointer (some ⟨c.bp,0,none⟩)] w (NPost c at_ mild w (fun at' k f l t n ks w'=>GT c at_ at' k f l t n ks w'∧k≠31)):=by
 have E0:=Z (Env.start h);clear h;go_enter func49,ntmps49;go_wp2_with fail;refine aG (fun w1=>Hid (Env c at_ mild w [(w.heap.size,#[.int .i64 0,.int .i64 0,.int .i64 0,.string ⟨#[]⟩,.int .u64 0,.slice none 0 0])] [(.slice none 0 0,[])] w1)) (Z (E0.alloc _).addNil) ?_;intro w1 E1;obtain⟨-,-,hat,hsm,c0,c1,-,-,-,-,-,d0,-,-,-,-⟩:=E1.st.facts;by_cases hk:(tk c.ts at_).kind=4;rotate_left
 ·have hk':((tk c.ts at_).kind !=4)=true:=by simp[hk]
  clear hk;go_quiet (fail);go_wp2_with fail;have E2:=Z (E1.keep ((Fr.refl w1).drewN nq));refine(bh c at_ mild _ E2.st).mono ?_;rintro e w2 ⟨ch,rfl,hS,F⟩;go_wp2_with fail;exact⟨rfl,.inr (E2.pan ⟨ch,rfl,hS,F⟩)⟩
 have HK:=Z hk;have hk':((tk c.ts at_).kind !=4)=false:=by simp[hk]
 clear hk;go_quiet (fail);have E2:=Z (E1.keep ((Fr.refl w1).drewN nq));clear c0 c1 d0 hk' hat E1;go_wp2_with fail;go_loopw [3,4] (fun v t wr=>∃ (a:Nat) (ns:List Nd) (s:ByteArray),t= .string s∧Hid (Env c a mild w [(w.heap.size,#[.int .i64 0,.int .i64 0,.int .i64 0,.string ⟨#[]⟩,.int .u64 0,.slice none 0 0])] [(v,ns)] wr)∧
   Hid (TRel c at_ a s ns∧s.size≤(a-at_) *100001∧at_≤a∧ns.length≤a)) (fun _ _ wr=>c.ts.length-gT c wr)
 case atStart=>exact⟨at_,[],_,rfl,E2,⟨.inl ⟨rfl,rfl,rfl⟩,by simp[ByteArray.size],Nat.le_refl _,by simp⟩⟩
 case round=>
  obtain⟨a,ns,s,rfl,E,HR⟩:=hrel;obtain⟨-,-,hat,-,c0,c1,-,-,-,-,-,d0,-,-,-,-⟩:=E.st.facts;have Hnl:=Z (show ns.length≤1000000 from by have:=HR.2.2.2;have:=E.st.lt;have:=c.small;omega);by_cases hk:(tk c.ts a).kind=4
  ·have HKa:=Z hk;have hk':((tk c.ts a).kind==4)=true:=by simp[hk]
   clear hk;go_wp2_with fail;go_quiet (fail);have Ea:=Z (E.keep ((Fr.refl wr).drewN nq));clear c0 c1 d0 hk' hat;go_wp2_with fail;refine(bm c 32 a mild _ Ea.st (by rw[HKa.out];decide)).mono ?_;rintro e w2 (⟨at2,k2,f2,l2,t2,n2,ka2,kn2,kc2,rfl,hP,F,hlt,hG⟩|⟨ch,rfl,hS,F⟩);rotate_left
   ·go_wp2_with fail;exact⟨rfl,.inr (Ea.pan ⟨ch,rfl,hS,F⟩)⟩
   have HG:=Z hG;have HL:=Z hlt;have HT:=Z (show t2=au (tk c.ts a)∧t2.size≤100000 from by
    have e:=hG.2.2;refine⟨e,?_⟩;rw[e,show au (tk c.ts a)=(tk c.ts a).val from by simp[au,HKa.out]];exact(c.sz a).2)
   have LT:=Z (af (Ea.call hP F).z1);have Eb:=Z ((Ea.call hP F).alloc #[.int .i64 k2,.int .i64 f2,.int .i64 l2,.string t2,.int .u64 n2,.slice ka2 kn2 kc2]);clear hP F hG hlt;go_wp2_with fail;refine aG (fun x0=>Hid (Env c at2 mild w [(w2.heap.size,#[.int .i64 k2,.int .i64 f2,.int .i64 l2,.string t2,.int .u64 n2,.slice ka2 kn2 kc2]),(w.heap.size,#[.int .i64 0,.int .i64 0,.int .i64 0,.string ⟨#[]⟩,.int .u64 0,.slice none 0 0])] [(u3,ns)] x0)) Eb ?_;intro x0 X0;generalize w2.heap.size=b at*
   have cb:∀ (w':World) (o:Nat),w'.heap[b]? =some (.cells #[.int .i64 k2,.int .i64 f2,.int .i64 l2,.string t2,.int .u64 n2,.slice ka2 kn2 kc2] 26 (0,0))→w'.cell? ⟨b,o,none⟩=(#[.int .i64 k2,.int .i64 f2,.int .i64 l2,.string t2,.int .u64 n2,.slice ka2 kn2 kc2]:Array Value)[o]? :=fun _ o z=>ab z o
   have Zb:=X0.z1;have hob:u3.ownBlock≠some b:=X0.d11;have hsz:¬9223372036854775807<s.size+t2.size:=by
    have h1:=HR.2.1;have h2:=HT.2;have h3:=E.st.lt;have h4:=c.small;have:(a-at_) *100001≤1000000*100001:=Nat.mul_le_mul_right _ (by omega);omega
   go_region_held2 (fun w'=>w'.heap[b]? =some (.cells #[.int .i64 k2,.int .i64 f2,.int .i64 l2,.string t2,.int .u64 n2,.slice ka2 kn2 kc2] 26 (0,0)))
    (first|with_reducible exact Keep.blk ((Fr.refl x0).drew) Zb|with_reducible exact Keep.blk (((Fr.refl x0).alloc _).drew) Zb|with_reducible exact Fr.blk f3 hob (Keep.blk (((Fr.refl x0).alloc _).drew) Zb))
    ((refine dR rfl (.tmp 35) (.tmp 37) rfl (B:=w.heap.size) (v:=u3) rfl (X0.k1.keep (((Fr.refl x0).alloc _).drew)) (ql x0 _) rfl Hnl.out (Nat.le_trans X0.fr.size (by simp)) ?_;intro v3 w3 o3 f3 s3))
   have Ec:=Z (((X0.keep (((Fr.refl x0).alloc _).drew)).grow o3 f3 s3).dropB);clear cb Zb hob hsz o3 f3 s3;go_wp2_with fail;go_roundw
   case rel=>
    obtain⟨r1,r2,r3,r4⟩:=HR.out;have e2:=HG.1;refine⟨at2,_,_,rfl,Ec,TRel.step r1 HKa.out e2 HT.1 HG.2.1,?_,by omega,by simp;omega⟩;have h1:=HT.2;subst e2;have h2:(a+1-at_) *100001=(a-at_) *100001+100001:=by rw[show a+1-at_=(a-at_)+1 from by omega,Nat.add_mul]
    rw[h2,cV];omega
   case measure=>
    rw[aE E.st,aE Ec.st];have:=Ec.st.lt;have:=HL.out;omega
  ·have HKa:=Z hk;have hk':((tk c.ts a).kind==4)=false:=by simp[hk]
   clear hk;go_wp2_with fail;go_quiet (fail);have Ea:=Z (E.keep ((Fr.refl wr).drewN nq));clear c0 c1 d0 hk' hat;obtain⟨r1,r2,r3,r4⟩:=HR.out;obtain⟨s1,s2,s3,s4⟩:=r1.done HK HKa.out;have S1:=Z s1;have S2:=Z s2;have S3:=Z s3;have S4:=Z s4;clear r1 r2 r3 r4 s1 s2 s3 s4;obtain⟨g,kc,hv,hB,hcc,hg⟩:=Ea.k1.big S2.out;subst hv;have HB:=Z hB;clear hcc hg hB;have hnl:ns.length≤1000000:=Hnl.out;by_cases h1:ns.length=1
   ·obtain⟨x,hx⟩:=List.length_eq_one_iff.1 h1;subst hx;have q0:(wr.drewN nq).cell? ⟨g,0,none⟩=some (.int .i64 x.kind):=Ea.k1.cell 0 (by simp) 0 (by omega);have q1:(wr.drewN nq).cell? ⟨g,1,none⟩=some (.int .i64 x.first):=Ea.k1.cell 0 (by simp) 1 (by omega);have q2:(wr.drewN nq).cell? ⟨g,2,none⟩=some (.int .i64 x.last):=Ea.k1.cell 0 (by simp) 2 (by omega);have q3:(wr.drewN nq).cell? ⟨g,3,none⟩=some (.string x.text):=Ea.k1.cell 0 (by simp) 3 (by omega);have q4:(wr.drewN nq).cell? ⟨g,4,none⟩=some (.int .u64 x.num):=Ea.k1.cell 0 (by simp) 4 (by omega);have q5:(wr.drewN nq).cell? ⟨g,5,none⟩=some (.slice x.ka x.kn x.kc):=Ea.k1.cell 0 (by simp) 5 (by omega);clear h1 hnl;go_wp2_with (refine aw Ea.z1 rfl rfl rfl ?_);exact aS Ea S3.out ⟨by have e:=(S4.out rfl x (by simp)).1;show SSeg _ _ _ x.text.toList;rw[e];exact S1.out,by rw[(S4.out rfl x (by simp)).2];decide⟩ rfl rfl rfl
   ·have h1':(((ns.length:Nat):Int) ==1)=false:=by simp;omega
    clear h1;go_wp2_with fail;go_simp;go_wp2_with fail;refine(node_any w.heap.size 33 _ ns _ Ea.k1 S2 hnl).mono ?_;rintro e wb ⟨rfl,kb⟩;have Lb:=Z (af (Ea.keep kb).z1);have Eb:=Z ((Ea.keep kb).alloc #[.int .i64 0,.int .i64 0,.int .i64 0,.string ⟨#[]⟩,.int .u64 0,.slice none 0 0]);clear kb;have hd:∀y∈ [(w.heap.size,(#[.int .i64 0,.int .i64 0,.int .i64 0,.string ⟨#[]⟩,.int .u64 0,.slice none 0 0]:Array Value))],y.1≠wb.heap.size:=by
     intro y hy;simp only[List.mem_cons,List.not_mem_nil,or_false] at hy;have:=Lb.out;rcases hy with rfl;dsimp only;omega
    have Ec:=Z (Eb.set1 #[.int .i64 33,.int .i64 (ns.head S2).first,.int .i64 (ns.getLast S2).last,.string ⟨#[]⟩,.int .u64 0,.slice (some ⟨g,0,none⟩) ns.length kc] hd);have Ed:=Z (Ec.set1 #[.int .i64 33,.int .i64 (ns.head S2).first,.int .i64 (ns.getLast S2).last,.string s,.int .u64 0,.slice (some ⟨g,0,none⟩) ns.length kc] hd);clear hd;go_wp2_with (first|(refine aw Eb.z1 rfl rfl rfl ?_)|(refine wG Ec.z1 rfl rfl ?_)|(refine cE Ed.z1 rfl ?_)|(refine aw Ed.z2 rfl rfl rfl ?_));refine qh (aN rfl (setRow_heap _ _ _ _ _ _ Ed.z2) rfl) rfl ?_;exact .inl ⟨a,_,_,_,_,_,_,_,_,rfl,(Ed.fin qr _).1,(Ed.fin qr _).2,S3,S1,by decide⟩
theorem fV(c:PC)(at_:Nat)(mild:Bool)(w:World)(h:PSt c at_ mild w):
  Calls prog 49 #[.pointer (some ⟨c.bp,0,none⟩)] w (NPost c at_ mild w (GT c at_)):=
 (fh c at_ mild w h).mono fun _ _ hh=>hh.imp (fun⟨at',k,f,l,t,n,ka,kn,kc,h1,h2,h3,h4,h5⟩=>⟨at',k,f,l,t,n,ka,kn,kc,h1,h2,h3,h4,h5.1⟩) id
theorem cS(c:PC)(s:ByteArray)(at_:Nat)(mild:Bool)(w:World)(h:PSt c at_ mild w):
  Calls prog 84 #[.pointer (some ⟨c.bp,0,none⟩),.string s] w fun e w'=>(∃b,e= .returned (.bool b))∧Keep w w':=by
 obtain⟨-,-,hat,hsm,c0,c1,-,-,-,-,-,-,-,-,-,-⟩:=h.facts;by_cases h1:at_+1<c.ts.length
 ·have d0:w.cell? ⟨c.bt,(at_+1) *5,none⟩=some (.int .i64 (tk c.ts (at_+1)).kind):=h.toks (at_+1) h1 0 _ rfl;have d1:w.cell? ⟨c.bt,(at_+1) *5+1,none⟩=some (.string (tk c.ts (at_+1)).raw):=h.toks (at_+1) h1 1 _ rfl;have g1:((at_:Int)+1) < (c.ts.length:Int):=by omega
  have g0:(0:Int)≤(at_:Int)+1:=by omega
  clear h;generalize tk c.ts (at_+1)=t at*
  obtain⟨k,raw,val,num,item⟩:=t;dsimp only at d0 d1;by_cases k1:k=1
  ·have k1':(k==1)=true:=by simp[k1]
   clear k1;go_enter func84,ntmps84;go_wp2_with fail;go_quiet (fail);go_wp2_with fail;go_ret;exact⟨⟨_,rfl⟩,(Fr.refl _).drewN nq⟩
  ·have k1':(k==1)=false:=by simp[k1]
   clear k1;by_cases k5:k=5
   ·have k5':(k==5)=true:=by simp[k5]
    clear k5;go_enter func84,ntmps84;go_wp2_with fail;go_quiet (fail);go_wp2_with fail;go_ret;exact⟨⟨_,rfl⟩,(Fr.refl _).drewN nq⟩
   ·have k5':(k==5)=false:=by simp[k5]
    clear k5;go_enter func84,ntmps84;go_wp2_with fail;go_quiet (fail);go_wp2_with fail;go_ret;exact⟨⟨_,rfl⟩,(Fr.refl _).drewN nq⟩
 ·have g1:decide (((at_:Int)+1) < (c.ts.length:Int))=false:=by simp;omega
  clear h h1;go_enter func84,ntmps84;go_wp2_with fail;go_quiet (fail);go_wp2_with fail;go_ret;exact⟨⟨_,rfl⟩,(Fr.refl _).drewN nq⟩
theorem yi{ops:Array Oper}{rest:List Oper}{Q:Exit→Act→World→Prop}{a:Act}{w:World}{pos:String}{after:Array Edge}{ty T:TypeId}{d p:Tmp}{g i:Nat}{cs:Array Value}{v:Value}
  (z:w.heap[g]? =some (.cells cs 26 (0,0))) (hc:cs[i]? =some v) (hx:a.tmps.getD p undef= .pointer (some ⟨g,i,none⟩)) (hT:T=23∨T=9∨T=3)
  (next:wpList prog ops Q rest (a.put (some d) v) w):
  wpList prog ops Q ({dst:=some d,op:= .load T (.tmp p),type:=ty,pos:=pos,after:=after,guard:=none} ::rest) a w:=by
 refine wpList_plain rfl fun K hK=>?_
 have c3:w.cell? ⟨g,i,none⟩=some v:=(ab z i).trans hc;have hx':a.tmps[p]?.getD undef= .pointer (some ⟨g,i,none⟩):=by simpa using hx
 unfold Oper.wp;rcases hT with rfl|rfl|rfl
 all_goals
  simp[execOp,Act.eval,hx',c3,go_sem];exact hK _ _ next
def kS(c:PC)(at_:Nat)(at':Nat)(_ _ _:Int)(_:ByteArray)(_:Int)(_:Value)(_:World):Prop:=Out c.ts at_ at'
theorem cQ{c:PC}{a a1:Nat}(e1:a1=a+1)(k:(tk c.ts a).kind=2∨(tk c.ts a).kind=3):Out c.ts a a1:=by
 subst e1;exact Out.plain (by rcases k with k|k<;>simp[k])
theorem kD{c:PC}{a a1 a2:Nat}(h2:a2≤c.ts.length)(e1:a1=a+1)(s:aH (tk c.ts a) ⟨#[45]⟩=true)(e2:a2=a1+1)(k:(tk c.ts a1).kind=2∨(tk c.ts a1).kind=3):Out c.ts a a2:=by
 subst e1;have y:=c.sym (i:=a) (by omega) s (by decide);exact(Out.sym y (by decide)).trans (cQ e2 k) (NGa.prev (by rw[show a+1-1=a from rfl,y.1];decide))
theorem ct(c:PC)(at_:Nat)(mild:Bool)(w:World)(h:PSt c at_ mild w):
  Calls prog 86 #[.pointer (some ⟨c.bp,0,none⟩)] w (NPost c at_ mild w (kS c at_)):=by
 have E0:=Z (Env.start h);clear h;go_enter func86,ntmps86;go_wp2_with fail;have E1:=Z (E0.allocZ);refine bO E1 (fun wa E2=>?_);cases h1:aH (tk c.ts at_) {data:=#[45]}
 ·go_wp2_with fail;refine nC (bK c at_ mild _ E2.st) E2 (fun _ _ p=>?_) (fun w2 at2 k2 f2 l2 t2 n2 ka2 kn2 kc2 HG2 HL2 E3=>?_)
  ·go_wp2_with fail;exact⟨rfl,.inr p⟩
  go_wp2_with (refine aw E3.z1 rfl rfl rfl ?_);exact aS E3 HL2 (cQ HG2.1 (.inl HG2.2)) rfl rfl rfl
 ·go_wp2_with fail;refine nC (ak c _ at_ mild _ E2.st) E2 (fun _ _ p=>?_) (fun w3 at3 k3 f3 l3 t3 n3 ka3 kn3 kc3 HG3 HL3 y=>?_)
  ·go_wp2_with fail;exact⟨rfl,.inr p⟩
  have LT3:=Z (af y.out.z1);have E3:=Z (y.out.alloc #[.int .i64 k3,.int .i64 f3,.int .i64 l3,.string t3,.int .u64 n3,.slice ka3 kn3 kc3]);clear y;go_wp2_with fail;refine(bK c at3 mild _ E3.st).mono ?_;rintro e w4 (⟨at4,k4,f4,l4,t4,n4,ka4,kn4,kc4,rfl,hP,F,hlt,hG⟩|⟨ch,rfl,hS,F⟩);rotate_left
  ·go_wp2_with fail;exact⟨rfl,.inr (E3.pan ⟨ch,rfl,hS,F⟩)⟩
  have HG4:=Z hG;have HL4:=Z hlt;have LT4:=Z (af (E3.call hP F).z2);have E4:=Z ((E3.call hP F).alloc #[.int .i64 k4,.int .i64 f4,.int .i64 l4,.string t4,.int .u64 n4,.slice ka4 kn4 kc4]);clear hP F hG hlt;by_cases hn:(9223372036854775808:Int) <n4
  ·go_wp2_with fail;refine(ap c at4 mild _ E4.st).mono ?_;rintro e wq ⟨ch,rfl,hS,F⟩;go_wp2_with fail;exact⟨rfl,.inr (E4.pan ⟨ch,rfl,hS,F⟩)⟩
  ·go_wp2_with (first|(refine cE E4.z2 rfl ?_)|(refine cE E4.z1 rfl ?_)|(refine bs2 rfl rfl ?_;refine Hid.out ?_));refine Z ?_;have E5:=Z (E4.addNew [Nd.mk k3 f3 l3 t3 n3 ka3 kn3 kc3,Nd.mk k4 f4 l4 t4 n4 ka4 kn4 kc4] #[.int .i64 k3,.int .i64 f3,.int .i64 l3,.string t3,.int .u64 n3,.slice ka3 kn3 kc3,.int .i64 k4,.int .i64 f4,.int .i64 l4,.string t4,.int .u64 n4,.slice ka4 kn4 kc4] rfl (by simp));have E5:=E5.out;rw[World.size_alloc] at E5;have E5:=Z E5;go_wp2_with fail;refine(node_any w.heap.size 35 (.slice (some ⟨w4.heap.size+1,0,none⟩) 2 2) [Nd.mk k3 f3 l3 t3 n3 ka3 kn3 kc3,Nd.mk k4 f4 l4 t4 n4 ka4 kn4 kc4] _ E5.k1 (by simp) (by simp)).mono ?_;rintro e wb ⟨rfl,kk⟩;have E6:=Z ((E5.keep kk).dropK.alloc #[.int .i64 0,.int .i64 0,.int .i64 0,.string ⟨#[]⟩,.int .u64 0,.slice none 0 0]);clear kk;have E7:=Z (E6.set0 #[.int .i64 35,.int .i64 f3,.int .i64 l4,.string ⟨#[]⟩,.int .u64 0,.slice (some ⟨w4.heap.size+1,0,none⟩) 2 2]);go_wp2_with (refine aw E6.z1 rfl rfl rfl ?_;refine Hid.out ?_);refine Z ?_;go_wp2_with (first|(refine yi E7.z2 (i:=4) rfl rfl (.inl rfl) ?_)|(refine zk E7.z1 rfl rfl ?_;refine Hid.out ?_));refine Z ?_;have E8:=Z (E7.set0 #[.int .i64 35,.int .i64 f3,.int .i64 l4,.string ⟨#[]⟩,.int .u64 (IntKind.u64.wrap (-n4)),.slice (some ⟨w4.heap.size+1,0,none⟩) 2 2]);go_wp2_with (first|(refine cE E8.z1 rfl ?_)|(refine aw E8.z4 rfl rfl rfl ?_));refine qh (aN rfl (setRow_heap _ _ _ _ _ _ E8.z4) rfl) rfl ?_;exact .inl ⟨at4,_,_,_,_,_,_,_,_,rfl,(E8.fin qr _).1,(E8.fin qr _).2,by have:=HL3.out;have:=HL4.out;omega,kD (by have:=E8.st.lt;omega) HG3.1 HG3.2.1 HG4.1 (.inl HG4.2)⟩
theorem SSeg.out{c:PC}{i j:Nat}{t:List UInt8}(h:SSeg c.ts i j t):Out c.ts i j∧(tk c.ts (j-1)).kind=4∧(tk c.ts i).kind=4∧i<j:=by
 induction h with
 |one h=>exact⟨Out.plain (.inr (.inr (.inr h))),h,h,by omega⟩
 | @more j t h1 h2 ih=>
  obtain⟨o,l,f,lt⟩:=ih;exact⟨o.trans (Out.plain (.inr (.inr (.inr h2)))) (NGa.prev (by rw[l];decide)),h2,f,by omega⟩
theorem rE(c:PC)(at_:Nat)(mild:Bool)(w:World)(h:PSt c at_ mild w)(hk:(tk c.ts at_).kind=4):
  Calls prog 144 #[.pointer (some ⟨c.bp,0,none⟩)] w (NPost c at_ mild w (kS c at_)):=by
 have E0:=Z (Env.start h);obtain⟨hb,hbt,hat,hsm,c0,c1,-,-,-,-,-,d0,d1,d2,d3,d4⟩:=h.facts;clear h;generalize ht:tk c.ts at_=t at*
 obtain⟨k,raw,val,num,item⟩:=t;have HT:=Z ht;clear ht;dsimp only at*
 subst hk;go_enter func144,ntmps144;go_wp2_with fail;go_region;have E1:=Z ((E0.allocZ).keep (((Fr.refl _).alloc (.cells #[.int .i64 4,.string raw,.string val,.int .u64 num,.int .i64 item] 48)).drew));clear c0 c1 d0 d1 d2 d3 d4;go_wp2_with fail;refine nC (fV c at_ mild _ E1.st) E1 (fun _ _ p=>?_) (fun w2 at2 k2 f2 l2 t2 n2 ka2 kn2 kc2 HG2 HL2 E3=>?_)
 ·go_wp2_with fail;exact⟨rfl,.inr p⟩
 go_wp2_with (refine aw E3.z1 rfl rfl rfl ?_);exact aS E3 HL2 ((SSeg.out HG2).1) rfl rfl rfl
theorem rF(c:PC)(at_:Nat)(mild:Bool)(w:World)(h:PSt c at_ mild w)(hk:(tk c.ts at_).kind=2):
  Calls prog 144 #[.pointer (some ⟨c.bp,0,none⟩)] w (NPost c at_ mild w (kS c at_)):=by
 have E0:=Z (Env.start h);obtain⟨hb,hbt,hat,hsm,c0,c1,-,-,-,-,-,d0,d1,d2,d3,d4⟩:=h.facts;clear h;generalize ht:tk c.ts at_=t at*
 obtain⟨k,raw,val,num,item⟩:=t;have HT:=Z ht;clear ht;dsimp only at*
 subst hk;go_enter func144,ntmps144;go_wp2_with fail;go_region;have E1:=Z ((E0.allocZ).keep (((Fr.refl _).alloc (.cells #[.int .i64 2,.string raw,.string val,.int .u64 num,.int .i64 item] 48)).drew));clear c0 c1 d0 d1 d2 d3 d4;go_wp2_with fail;refine nC (bK c at_ mild _ E1.st) E1 (fun _ _ p=>?_) (fun w2 at2 k2 f2 l2 t2 n2 ka2 kn2 kc2 HG2 HL2 E3=>?_)
 ·go_wp2_with fail;exact⟨rfl,.inr p⟩
 go_wp2_with (refine aw E3.z1 rfl rfl rfl ?_);exact aS E3 HL2 (cQ HG2.1 (.inl HG2.2)) rfl rfl rfl
theorem rG(c:PC)(at_:Nat)(mild:Bool)(w:World)(h:PSt c at_ mild w)(hk:(tk c.ts at_).kind=3):
  Calls prog 144 #[.pointer (some ⟨c.bp,0,none⟩)] w (NPost c at_ mild w (kS c at_)):=by
 have E0:=Z (Env.start h);obtain⟨hb,hbt,hat,hsm,c0,c1,-,-,-,-,-,d0,d1,d2,d3,d4⟩:=h.facts;clear h;generalize ht:tk c.ts at_=t at*
 obtain⟨k,raw,val,num,item⟩:=t;have HT:=Z ht;clear ht;dsimp only at*
 subst hk;go_enter func144,ntmps144;go_wp2_with fail;go_region;have E1:=Z ((E0.allocZ).keep (((Fr.refl _).alloc (.cells #[.int .i64 3,.string raw,.string val,.int .u64 num,.int .i64 item] 48)).drew));clear c0 c1 d0 d1 d2 d3 d4;go_wp2_with fail;refine nC (bm c 36 at_ mild _ E1.st (by rw[HT.out];simp)) E1 (fun _ _ p=>?_) (fun w2 at2 k2 f2 l2 t2 n2 ka2 kn2 kc2 HG2 HL2 E3=>?_)
 ·go_wp2_with fail;exact⟨rfl,.inr p⟩
 go_wp2_with (refine aw E3.z1 rfl rfl rfl ?_);exact aS E3 HL2.out (cQ HG2.1 (.inr (by rw[HT.out]))) rfl rfl rfl
theorem qu(c:PC)(at_:Nat)(mild:Bool)(w:World)(h:PSt c at_ mild w)(hk:(tk c.ts at_).kind=1)(e1:((tk c.ts at_).raw.toList== [116,114,117,101])=true):
  Calls prog 144 #[.pointer (some ⟨c.bp,0,none⟩)] w (NPost c at_ mild w (kS c at_)):=by
 have E0:=Z (Env.start h);obtain⟨hb,hbt,hat,hsm,c0,c1,-,-,-,-,-,d0,d1,d2,d3,d4⟩:=h.facts;clear h;generalize ht:tk c.ts at_=t at*
 obtain⟨k,raw,val,num,item⟩:=t;have HT:=Z ht;clear ht;dsimp only at*
 subst hk;go_enter func144,ntmps144;go_wp2_with fail;go_region;have E1:=Z ((E0.allocZ).keep (((Fr.refl _).alloc (.cells #[.int .i64 1,.string raw,.string val,.int .u64 num,.int .i64 item] 48)).drew));clear c0 c1 d0 d1 d2 d3 d4;go_wp2_with fail;refine nC (bm c 29 at_ mild _ E1.st (by rw[HT.out];simp)) E1 (fun _ _ p=>?_) (fun w2 at2 k2 f2 l2 t2 n2 ka2 kn2 kc2 HG2 HL2 E3=>?_)
 ·go_wp2_with fail;exact⟨rfl,.inr p⟩
 go_wp2_with (refine aw E3.z1 rfl rfl rfl ?_);exact aS E3 HL2.out ((cD (by have:=E3.st.lt;omega) HG2.1 (by rw[HT.out])).1) rfl rfl rfl
theorem qt(c:PC)(at_:Nat)(mild:Bool)(w:World)(h:PSt c at_ mild w)(hk:(tk c.ts at_).kind=1)(e1:((tk c.ts at_).raw.toList== [116,114,117,101])=false)(e2:((tk c.ts at_).raw.toList== [102,97,108,115,101])=true):
  Calls prog 144 #[.pointer (some ⟨c.bp,0,none⟩)] w (NPost c at_ mild w (kS c at_)):=by
 have E0:=Z (Env.start h);obtain⟨hb,hbt,hat,hsm,c0,c1,-,-,-,-,-,d0,d1,d2,d3,d4⟩:=h.facts;clear h;generalize ht:tk c.ts at_=t at*
 obtain⟨k,raw,val,num,item⟩:=t;have HT:=Z ht;clear ht;dsimp only at*
 subst hk;go_enter func144,ntmps144;go_wp2_with fail;go_region;have E1:=Z ((E0.allocZ).keep (((Fr.refl _).alloc (.cells #[.int .i64 1,.string raw,.string val,.int .u64 num,.int .i64 item] 48)).drew));clear c0 c1 d0 d1 d2 d3 d4;go_wp2_with fail;refine nC (bm c 29 at_ mild _ E1.st (by rw[HT.out];simp)) E1 (fun _ _ p=>?_) (fun w2 at2 k2 f2 l2 t2 n2 ka2 kn2 kc2 HG2 HL2 E3=>?_)
 ·go_wp2_with fail;exact⟨rfl,.inr p⟩
 go_wp2_with (refine aw E3.z1 rfl rfl rfl ?_);exact aS E3 HL2.out ((cD (by have:=E3.st.lt;omega) HG2.1 (by rw[HT.out])).1) rfl rfl rfl
theorem qg(c:PC)(at_:Nat)(mild:Bool)(w:World)(h:PSt c at_ mild w)(hk:(tk c.ts at_).kind=1)(e1:((tk c.ts at_).raw.toList== [116,114,117,101])=false)(e2:((tk c.ts at_).raw.toList== [102,97,108,115,101])=false):
  Calls prog 144 #[.pointer (some ⟨c.bp,0,none⟩)] w (NPost c at_ mild w (kS c at_)):=by
 have E0:=Z (Env.start h);obtain⟨hb,hbt,hat,hsm,c0,c1,-,-,-,-,-,d0,d1,d2,d3,d4⟩:=h.facts;clear h;generalize ht:tk c.ts at_=t at*
 obtain⟨k,raw,val,num,item⟩:=t;have HT:=Z ht;clear ht;dsimp only at*
 subst hk;go_enter func144,ntmps144;go_wp2_with fail;go_region;have E1:=Z ((E0.allocZ).keep (((Fr.refl _).alloc (.cells #[.int .i64 1,.string raw,.string val,.int .u64 num,.int .i64 item] 48)).drew));clear c0 c1 d0 d1 d2 d3 d4;go_wp2_with fail;refine(kF _ _).mono ?_;rintro e w' ⟨rfl,rfl⟩;cases hm:lI raw.toList;rotate_left
 ·go_wp2_with fail;refine(ap c at_ mild _ E1.st).mono ?_;rintro e wq ⟨ch,rfl,hS,F⟩;go_wp2_with fail;exact⟨rfl,.inr (E1.pan ⟨ch,rfl,hS,F⟩)⟩
 go_wp2_with fail;refine nC (bm c 29 at_ mild _ E1.st (by rw[HT.out];simp)) E1 (fun _ _ p=>?_) (fun w2 at2 k2 f2 l2 t2 n2 ka2 kn2 kc2 HG2 HL2 E3=>?_)
 ·go_wp2_with fail;exact⟨rfl,.inr p⟩
 go_wp2_with (refine aw E3.z1 rfl rfl rfl ?_);exact aS E3 HL2.out ((cD (by have:=E3.st.lt;omega) HG2.1 (by rw[HT.out])).1) rfl rfl rfl
theorem kM(c:PC)(at_:Nat)(mild:Bool)(w:World)(h:PSt c at_ mild w):
  Calls prog 50 #[.pointer (some ⟨c.bp,0,none⟩)] w (NPost c at_ mild w (fun at' k _ _ _ _ _ _=>at'=at_+1∧aH (tk c.ts at_) ⟨#[59]⟩=true∧k=25)):=by
 have E0:=Z (Env.start h);clear h;go_enter func50,ntmps50;go_wp2_with fail;have E1:=Z (E0.allocZ);refine nC (ak c _ at_ mild _ E1.st) E1 (fun _ _ p=>?_) (fun w2 at2 k2 f2 l2 t2 n2 ka2 kn2 kc2 HG2 HL2 E3=>?_)
 ·go_wp2_with fail;exact⟨rfl,.inr p⟩
 go_wp2_with (refine bs1 rfl ?_;refine Hid.out ?_);refine Z ?_;have E4:=Z (E3.addNew [Nd.mk k2 f2 l2 t2 n2 ka2 kn2 kc2] _ rfl (by simp));go_wp2_with fail;refine kC (node_any w.heap.size 25 _ [Nd.mk k2 f2 l2 t2 n2 ka2 kn2 kc2] _ E4.k1 (by simp) (by simp)) E4 (fun wb E5=>?_);go_wp2_with (refine aw E5.z1 rfl rfl rfl ?_);exact aS E5 HL2 ⟨HG2.1,HG2.2.1,rfl⟩ rfl rfl rfl
theorem jw(c:PC)(at_:Nat)(mild:Bool)(w:World)(h:PSt c at_ mild w):
  Calls prog 50 #[.pointer (some ⟨c.bp,0,none⟩)] w (NPost c at_ mild w (fun at' _ _ _ _ _ _ _=>at'=at_+1∧aH (tk c.ts at_) ⟨#[59]⟩=true)):=
 (kM c at_ mild w h).mono fun _ _ hh=>hh.imp (fun⟨at',k,f,l,t,n,ka,kn,kc,h1,h2,h3,h4,h5⟩=>⟨at',k,f,l,t,n,ka,kn,kc,h1,h2,h3,h4,h5.1,h5.2.1⟩) id
inductive ESeg(One:Nat→Nat→Prop)(ts:List Tk):Nat→Nat→Prop where
 |nil {i:Nat}:ESeg One ts i i
 |semi {i j:Nat}:ESeg One ts i j→aH (tk ts j) ⟨#[59]⟩=true→ESeg One ts i (j+1)
 |one {i j k:Nat}:ESeg One ts i j→One j k→ESeg One ts i k
def tS(c:PC)(One:Nat→Nat→Prop)(at_ at':Nat):Prop:=
 aH (tk c.ts at_) ⟨#[123]⟩=true∧∃j,ESeg One c.ts (at_+1) j∧aH (tk c.ts j) ⟨#[125]⟩=true∧at'=j+1
theorem dx(c:PC)(F:FuncId)(first cap:Array Value)(B:Nat)(v:Value)(l:List Nd)(hne:l≠[])(at_:Nat)(mild:Bool)(w:World)(One:Nat→Nat→Prop)
  (I:World→Prop) (hI:∀w1 w2,I w1→Fr (fun k=>k=c.bp∨v.ownBlock=some k∨w.heap.size≤k) w1 w2→I w2) (hi:I w)
  (hF:∀args w,(callFunc F args).run prog w= .ok (.enter F args) w)
  (hone:∀a w,at_≤a→PSt c a mild w→I w→Calls prog F (first++cap) w (NPost c a mild w fun a' _ _ _ _ _ _ _=>One a a'))
  (h:PSt c at_ mild w) (hown:KOwn B w v l) (hbp:c.bp<B) (hbt:c.bt<B) (hB:B≤w.heap.size) (hl:l.length≤at_):
  Calls prog 81 #[.pointer (some ⟨c.bp,0,none⟩),v,.func (.func F) first cap] w (vW c B v l at_ mild w (tS c One at_)):=by
 have G0:=Z (show GEnv c B v at_ mild w v l w from⟨h,hown,Fr.refl _,OwnStep.refl _ _,hbp,hbt,hB,hl⟩);have HI:=Z hI;have Hi:=Z hi;have HO:=Z hone;obtain⟨g,kc,hv,-,-,-⟩:=hown.big hne;subst hv;have q3:w.cell? ⟨g,3,none⟩=some (.string (l.head hne).text):=by
  have:=hown.cell 0 (List.length_pos_iff.2 hne) 3 (by omega);rw[show l[0]'(List.length_pos_iff.2 hne)=l.head hne from(List.head_eq_getElem hne).symm] at this;exact this
 have hl0:(0:Int) < (l.length:Int):=by have:=List.length_pos_iff.2 hne;omega
 have hlm:l.length≤1000000:=G0.sm;generalize(l.head hne).text=tx at q3;clear hI hi hone h hown hbp hbt hB hl;cases e1:(tx.toList== [101,120,116,101,110,100]);cases e2:(tx.toList== [111,110,101,111,102])
 ·go_enter func81,ntmps81;go_wp2_with fail;clear q3 hl0;refine(ak c _ at_ mild _ G0.st).mono ?_;rintro e w1 (⟨at1,k1,f1,l1,t1,n1,ka1,kn1,kc1,rfl,hP1,F1,hlt1,hG1⟩|⟨ch,rfl,hS,F1⟩);rotate_left
  ·go_wp2_with fail;exact⟨rfl,.inr (G0.pan hS F1)⟩
  have G1:=Z (G0.call hP1 F1 (Nat.le_of_lt hlt1));have HG1:=Z hG1;have HL:=Z G0.len;have Hi1:=Z (HI _ _ Hi (F1.mono fun _ _ e=> .inl e));clear hP1 F1 hG1;go_wp2_with (refine app1 G1.own G1.hBw G1.sm (by simp) (by decide) rfl rfl ?_;intro v2 w2 o2 f2 s2;refine Hid.out ?_);refine Z ?_;have G2:=Z (G1.grow o2 f2 s2 (by have:=HL.out;simp;omega));have Hi2:=Z (HI _ _ Hi1 (f2.mono fun k hk e=>by
   rcases G1.step k e with e|e
   ·exact .inr (.inl e)
   ·exact .inr (.inr e)))
  clear o2 f2 s2;go_wp2_with fail;have Lt1:=Z hlt1;clear hlt1;go_loopw [1] (fun u wr=>∃ (a:Nat) (l':List Nd),GEnv c B (.slice (some ⟨g,0,none⟩) l.length kc) a mild w u (l++l') wr∧l'≠[]∧at_<a∧ESeg One c.ts (at_+1) a∧Hid (I wr)) (fun _ wr=>c.ts.length-gT c wr)
  case atStart=>exact⟨at1,_,G2.out,by simp,Lt1.out,by rw[HG1.1];exact ESeg.nil,Hi2⟩
  case round=>
   obtain⟨a,l',GG,hne',hlt,hls,Hi⟩:=hrel;have G:=Z GG;have HN:=Z hne';have HLT:=Z hlt;have HLS:=Z hls;clear GG hne' hlt hls;go_wp2_with fail;refine(bG c _ a mild _ G.st).mono ?_;rintro e wa ⟨rfl,ka⟩;have Ga:=Z (G.keep ka);have HiGa:=Z (HI _ _ Hi ka.up);clear ka;cases hc:aH (tk c.ts a) {data:=#[125]};rotate_left
   ·have HC:=Z hc;clear hc;go_wp2_with fail;refine(ak c _ a mild _ Ga.st).mono ?_;rintro e wb (⟨atb,kb,fb,lb,tb,nb,kab,knb,kcb,rfl,hPb,Fb,hltb,hGb⟩|⟨ch,rfl,hS,Fb⟩);rotate_left
    ·go_wp2_with fail;exact⟨rfl,.inr (Ga.pan hS Fb)⟩
    have Gb:=Z (Ga.call hPb Fb (Nat.le_of_lt hltb));have HGb:=Z hGb;have HLb:=Z hltb;have HLa:=Z Ga.len;clear hPb Fb hGb hltb;go_wp2_with (refine app1 Gb.own Gb.hBw Gb.sm (by simp) (by decide) rfl rfl ?_;intro v3 w3 o3 f3 s3;refine Hid.out ?_);refine Z ?_;have Gc:=Z (Gb.grow o3 f3 s3 (by have:=HLa.out;have:=HLb.out;simp at*;omega));clear o3 f3 s3;go_wp2_with fail;go_ret;have GE:=Gc.out;rw[qs l] at GE;exact .inl ⟨atb,_,_,rfl,GE.st,GE.own,by simp,GE.fr,GE.step,by have:=HLT.out;have:=HLb.out;omega,GE.len,by have:=HG1.2.1;exact this,a,HLS.out,HGb.2.1,HGb.1⟩
   ·go_wp2_with fail;refine(bG c _ a mild _ Ga.st).mono ?_;rintro e wz ⟨rfl,kz⟩;have Gz:=Z (Ga.keep kz);have HiGz:=Z (HI _ _ HiGa kz.up);clear kz;cases hz:aH (tk c.ts a) {data:=#[59]}
    ·go_wp2_with fail;refine(HO a _ (Nat.le_of_lt HLT) Gz.st HiGz).mono ?_;rintro e y4 (⟨at4,k4,f4,l4,t4,n4,ka4,kn4,kc4,rfl,hP,F,hlt,hG⟩|⟨ch,rfl,hS,F⟩);rotate_left
     ·go_wp2_with fail;exact⟨rfl,.inr (Gz.pan hS F)⟩
     have Gp:=Z (Gz.call hP F (Nat.le_of_lt hlt));have HiGp:=Z (HI _ _ HiGz (F.mono fun _ _ e=> .inl e));have HG4:=Z hG;have HL4:=Z hlt;have HE4:=Z Gz.len;clear hP F hG hlt;go_wp2_with (refine app1 Gp.own Gp.hBw Gp.sm (by simp) (by decide) rfl rfl ?_;intro v5 x5 o5 f5 s5;refine Hid.out ?_);refine Z ?_;have Gq:=Z (Gp.grow o5 f5 s5 (by have:=HE4.out;have:=HL4.out;simp at*;omega));have HiGq:=Z (HI _ _ HiGp (f5.mono fun k hk e=>by
      rcases Gp.step k e with e|e
      ·exact .inr (.inl e)
      ·exact .inr (.inr e)))
     clear o5 f5 s5;go_wp2_with fail;go_roundw
     case rel=>
      have GE:=Gq.out;rw[qs l] at GE;exact⟨at4,_,GE,by simp,by have:=HLT.out;have:=HL4.out;omega,ESeg.one HLS.out HG4.out,HiGq⟩
     case measure=>
      rw[aE G.st,aE Gq.st];have:=HL4.out;have:=Gq.st.lt;omega
    ·have HZ:=Z hz;clear hz;go_wp2_with fail;refine(jw c a mild _ Gz.st).mono ?_;rintro e y4 (⟨at4,k4,f4,l4,t4,n4,ka4,kn4,kc4,rfl,hP,F,hlt,hG⟩|⟨ch,rfl,hS,F⟩);rotate_left
     ·go_wp2_with fail;exact⟨rfl,.inr (Gz.pan hS F)⟩
     have Gp:=Z (Gz.call hP F (Nat.le_of_lt hlt));have HiGp:=Z (HI _ _ HiGz (F.mono fun _ _ e=> .inl e));have HG4:=Z hG;have HL4:=Z hlt;have HE4:=Z Gz.len;clear hP F hG hlt;go_wp2_with (refine app1 Gp.own Gp.hBw Gp.sm (by simp) (by decide) rfl rfl ?_;intro v5 x5 o5 f5 s5;refine Hid.out ?_);refine Z ?_;have Gq:=Z (Gp.grow o5 f5 s5 (by have:=HE4.out;have:=HL4.out;simp at*;omega));have HiGq:=Z (HI _ _ HiGp (f5.mono fun k hk e=>by
      rcases Gp.step k e with e|e
      ·exact .inr (.inl e)
      ·exact .inr (.inr e)))
     clear o5 f5 s5;go_wp2_with fail;go_roundw
     case rel=>
      have GE:=Gq.out;rw[qs l] at GE;exact⟨at4,_,GE,by simp,by have:=HLT.out;have:=HL4.out;omega,by rw[HG4.1];exact ESeg.semi HLS.out HZ.out,HiGq⟩
     case measure=>
      rw[aE G.st,aE Gq.st];have:=HL4.out;have:=Gq.st.lt;omega
 ·go_enter func81,ntmps81;go_wp2_with fail;clear q3 hl0;refine(ak c _ at_ mild _ G0.st).mono ?_;rintro e w1 (⟨at1,k1,f1,l1,t1,n1,ka1,kn1,kc1,rfl,hP1,F1,hlt1,hG1⟩|⟨ch,rfl,hS,F1⟩);rotate_left
  ·go_wp2_with fail;exact⟨rfl,.inr (G0.pan hS F1)⟩
  have G1:=Z (G0.call hP1 F1 (Nat.le_of_lt hlt1));have HG1:=Z hG1;have HL:=Z G0.len;have Hi1:=Z (HI _ _ Hi (F1.mono fun _ _ e=> .inl e));clear hP1 F1 hG1;go_wp2_with (refine app1 G1.own G1.hBw G1.sm (by simp) (by decide) rfl rfl ?_;intro v2 w2 o2 f2 s2;refine Hid.out ?_);refine Z ?_;have G2:=Z (G1.grow o2 f2 s2 (by have:=HL.out;simp;omega));have Hi2:=Z (HI _ _ Hi1 (f2.mono fun k hk e=>by
   rcases G1.step k e with e|e
   ·exact .inr (.inl e)
   ·exact .inr (.inr e)))
  clear o2 f2 s2;go_wp2_with fail;have Lt1:=Z hlt1;clear hlt1;go_loopw [1] (fun u wr=>∃ (a:Nat) (l':List Nd),GEnv c B (.slice (some ⟨g,0,none⟩) l.length kc) a mild w u (l++l') wr∧l'≠[]∧at_<a∧ESeg One c.ts (at_+1) a∧Hid (I wr)) (fun _ wr=>c.ts.length-gT c wr)
  case atStart=>exact⟨at1,_,G2.out,by simp,Lt1.out,by rw[HG1.1];exact ESeg.nil,Hi2⟩
  case round=>
   obtain⟨a,l',GG,hne',hlt,hls,Hi⟩:=hrel;have G:=Z GG;have HN:=Z hne';have HLT:=Z hlt;have HLS:=Z hls;clear GG hne' hlt hls;go_wp2_with fail;refine(bG c _ a mild _ G.st).mono ?_;rintro e wa ⟨rfl,ka⟩;have Ga:=Z (G.keep ka);have HiGa:=Z (HI _ _ Hi ka.up);clear ka;cases hc:aH (tk c.ts a) {data:=#[125]};rotate_left
   ·have HC:=Z hc;clear hc;go_wp2_with fail;refine(ak c _ a mild _ Ga.st).mono ?_;rintro e wb (⟨atb,kb,fb,lb,tb,nb,kab,knb,kcb,rfl,hPb,Fb,hltb,hGb⟩|⟨ch,rfl,hS,Fb⟩);rotate_left
    ·go_wp2_with fail;exact⟨rfl,.inr (Ga.pan hS Fb)⟩
    have Gb:=Z (Ga.call hPb Fb (Nat.le_of_lt hltb));have HGb:=Z hGb;have HLb:=Z hltb;have HLa:=Z Ga.len;clear hPb Fb hGb hltb;go_wp2_with (refine app1 Gb.own Gb.hBw Gb.sm (by simp) (by decide) rfl rfl ?_;intro v3 w3 o3 f3 s3;refine Hid.out ?_);refine Z ?_;have Gc:=Z (Gb.grow o3 f3 s3 (by have:=HLa.out;have:=HLb.out;simp at*;omega));clear o3 f3 s3;go_wp2_with fail;go_ret;have GE:=Gc.out;rw[qs l] at GE;exact .inl ⟨atb,_,_,rfl,GE.st,GE.own,by simp,GE.fr,GE.step,by have:=HLT.out;have:=HLb.out;omega,GE.len,by have:=HG1.2.1;exact this,a,HLS.out,HGb.2.1,HGb.1⟩
   ·go_wp2_with fail;refine(bG c _ a mild _ Ga.st).mono ?_;rintro e ww ⟨rfl,kw⟩;have Gw:=Z (Ga.keep kw);have HiGw:=Z (HI _ _ HiGa kw.up);clear kw;cases hw:aH (tk c.ts a) {data:=#[59]};rotate_left
    ·go_wp2_with fail;refine(ap c a mild _ Gw.st).mono ?_;rintro e wq ⟨ch,rfl,hS,F⟩;go_wp2_with fail;exact⟨rfl,.inr (Gw.pan hS F)⟩
    clear hw;go_wp2_with fail;refine(bG c _ a mild _ Gw.st).mono ?_;rintro e wz ⟨rfl,kz⟩;have Gz:=Z (Gw.keep kz);have HiGz:=Z (HI _ _ HiGw kz.up);clear kz;cases hz:aH (tk c.ts a) {data:=#[59]}
    ·go_wp2_with fail;refine(HO a _ (Nat.le_of_lt HLT) Gz.st HiGz).mono ?_;rintro e y4 (⟨at4,k4,f4,l4,t4,n4,ka4,kn4,kc4,rfl,hP,F,hlt,hG⟩|⟨ch,rfl,hS,F⟩);rotate_left
     ·go_wp2_with fail;exact⟨rfl,.inr (Gz.pan hS F)⟩
     have Gp:=Z (Gz.call hP F (Nat.le_of_lt hlt));have HiGp:=Z (HI _ _ HiGz (F.mono fun _ _ e=> .inl e));have HG4:=Z hG;have HL4:=Z hlt;have HE4:=Z Gz.len;clear hP F hG hlt;go_wp2_with (refine app1 Gp.own Gp.hBw Gp.sm (by simp) (by decide) rfl rfl ?_;intro v5 x5 o5 f5 s5;refine Hid.out ?_);refine Z ?_;have Gq:=Z (Gp.grow o5 f5 s5 (by have:=HE4.out;have:=HL4.out;simp at*;omega));have HiGq:=Z (HI _ _ HiGp (f5.mono fun k hk e=>by
      rcases Gp.step k e with e|e
      ·exact .inr (.inl e)
      ·exact .inr (.inr e)))
     clear o5 f5 s5;go_wp2_with fail;go_roundw
     case rel=>
      have GE:=Gq.out;rw[qs l] at GE;exact⟨at4,_,GE,by simp,by have:=HLT.out;have:=HL4.out;omega,ESeg.one HLS.out HG4.out,HiGq⟩
     case measure=>
      rw[aE G.st,aE Gq.st];have:=HL4.out;have:=Gq.st.lt;omega
    ·have HZ:=Z hz;clear hz;go_wp2_with fail;refine(jw c a mild _ Gz.st).mono ?_;rintro e y4 (⟨at4,k4,f4,l4,t4,n4,ka4,kn4,kc4,rfl,hP,F,hlt,hG⟩|⟨ch,rfl,hS,F⟩);rotate_left
     ·go_wp2_with fail;exact⟨rfl,.inr (Gz.pan hS F)⟩
     have Gp:=Z (Gz.call hP F (Nat.le_of_lt hlt));have HiGp:=Z (HI _ _ HiGz (F.mono fun _ _ e=> .inl e));have HG4:=Z hG;have HL4:=Z hlt;have HE4:=Z Gz.len;clear hP F hG hlt;go_wp2_with (refine app1 Gp.own Gp.hBw Gp.sm (by simp) (by decide) rfl rfl ?_;intro v5 x5 o5 f5 s5;refine Hid.out ?_);refine Z ?_;have Gq:=Z (Gp.grow o5 f5 s5 (by have:=HE4.out;have:=HL4.out;simp at*;omega));have HiGq:=Z (HI _ _ HiGp (f5.mono fun k hk e=>by
      rcases Gp.step k e with e|e
      ·exact .inr (.inl e)
      ·exact .inr (.inr e)))
     clear o5 f5 s5;go_wp2_with fail;go_roundw
     case rel=>
      have GE:=Gq.out;rw[qs l] at GE;exact⟨at4,_,GE,by simp,by have:=HLT.out;have:=HL4.out;omega,by rw[HG4.1];exact ESeg.semi HLS.out HZ.out,HiGq⟩
     case measure=>
      rw[aE G.st,aE Gq.st];have:=HL4.out;have:=Gq.st.lt;omega
 ·go_enter func81,ntmps81;go_wp2_with fail;clear q3 hl0;refine(ak c _ at_ mild _ G0.st).mono ?_;rintro e w1 (⟨at1,k1,f1,l1,t1,n1,ka1,kn1,kc1,rfl,hP1,F1,hlt1,hG1⟩|⟨ch,rfl,hS,F1⟩);rotate_left
  ·go_wp2_with fail;exact⟨rfl,.inr (G0.pan hS F1)⟩
  have G1:=Z (G0.call hP1 F1 (Nat.le_of_lt hlt1));have HG1:=Z hG1;have HL:=Z G0.len;have Hi1:=Z (HI _ _ Hi (F1.mono fun _ _ e=> .inl e));clear hP1 F1 hG1;go_wp2_with (refine app1 G1.own G1.hBw G1.sm (by simp) (by decide) rfl rfl ?_;intro v2 w2 o2 f2 s2;refine Hid.out ?_);refine Z ?_;have G2:=Z (G1.grow o2 f2 s2 (by have:=HL.out;simp;omega));have Hi2:=Z (HI _ _ Hi1 (f2.mono fun k hk e=>by
   rcases G1.step k e with e|e
   ·exact .inr (.inl e)
   ·exact .inr (.inr e)))
  clear o2 f2 s2;go_wp2_with fail;have Lt1:=Z hlt1;clear hlt1;go_loopw [1] (fun u wr=>∃ (a:Nat) (l':List Nd),GEnv c B (.slice (some ⟨g,0,none⟩) l.length kc) a mild w u (l++l') wr∧l'≠[]∧at_<a∧ESeg One c.ts (at_+1) a∧Hid (I wr)) (fun _ wr=>c.ts.length-gT c wr)
  case atStart=>exact⟨at1,_,G2.out,by simp,Lt1.out,by rw[HG1.1];exact ESeg.nil,Hi2⟩
  case round=>
   obtain⟨a,l',GG,hne',hlt,hls,Hi⟩:=hrel;have G:=Z GG;have HN:=Z hne';have HLT:=Z hlt;have HLS:=Z hls;clear GG hne' hlt hls;go_wp2_with fail;refine(bG c _ a mild _ G.st).mono ?_;rintro e wa ⟨rfl,ka⟩;have Ga:=Z (G.keep ka);have HiGa:=Z (HI _ _ Hi ka.up);clear ka;cases hc:aH (tk c.ts a) {data:=#[125]};rotate_left
   ·have HC:=Z hc;clear hc;go_wp2_with fail;refine(ak c _ a mild _ Ga.st).mono ?_;rintro e wb (⟨atb,kb,fb,lb,tb,nb,kab,knb,kcb,rfl,hPb,Fb,hltb,hGb⟩|⟨ch,rfl,hS,Fb⟩);rotate_left
    ·go_wp2_with fail;exact⟨rfl,.inr (Ga.pan hS Fb)⟩
    have Gb:=Z (Ga.call hPb Fb (Nat.le_of_lt hltb));have HGb:=Z hGb;have HLb:=Z hltb;have HLa:=Z Ga.len;clear hPb Fb hGb hltb;go_wp2_with (refine app1 Gb.own Gb.hBw Gb.sm (by simp) (by decide) rfl rfl ?_;intro v3 w3 o3 f3 s3;refine Hid.out ?_);refine Z ?_;have Gc:=Z (Gb.grow o3 f3 s3 (by have:=HLa.out;have:=HLb.out;simp at*;omega));clear o3 f3 s3;go_wp2_with fail;go_ret;have GE:=Gc.out;rw[qs l] at GE;exact .inl ⟨atb,_,_,rfl,GE.st,GE.own,by simp,GE.fr,GE.step,by have:=HLT.out;have:=HLb.out;omega,GE.len,by have:=HG1.2.1;exact this,a,HLS.out,HGb.2.1,HGb.1⟩
   ·go_wp2_with fail;refine(bG c _ a mild _ Ga.st).mono ?_;rintro e ww ⟨rfl,kw⟩;have Gw:=Z (Ga.keep kw);have HiGw:=Z (HI _ _ HiGa kw.up);clear kw;cases hw:aH (tk c.ts a) {data:=#[59]};rotate_left
    ·go_wp2_with fail;refine(ap c a mild _ Gw.st).mono ?_;rintro e wq ⟨ch,rfl,hS,F⟩;go_wp2_with fail;exact⟨rfl,.inr (Gw.pan hS F)⟩
    clear hw;go_wp2_with fail;refine(bG c _ a mild _ Gw.st).mono ?_;rintro e wz ⟨rfl,kz⟩;have Gz:=Z (Gw.keep kz);have HiGz:=Z (HI _ _ HiGw kz.up);clear kz;cases hz:aH (tk c.ts a) {data:=#[59]}
    ·go_wp2_with fail;refine(HO a _ (Nat.le_of_lt HLT) Gz.st HiGz).mono ?_;rintro e y4 (⟨at4,k4,f4,l4,t4,n4,ka4,kn4,kc4,rfl,hP,F,hlt,hG⟩|⟨ch,rfl,hS,F⟩);rotate_left
     ·go_wp2_with fail;exact⟨rfl,.inr (Gz.pan hS F)⟩
     have Gp:=Z (Gz.call hP F (Nat.le_of_lt hlt));have HiGp:=Z (HI _ _ HiGz (F.mono fun _ _ e=> .inl e));have HG4:=Z hG;have HL4:=Z hlt;have HE4:=Z Gz.len;clear hP F hG hlt;go_wp2_with (refine app1 Gp.own Gp.hBw Gp.sm (by simp) (by decide) rfl rfl ?_;intro v5 x5 o5 f5 s5;refine Hid.out ?_);refine Z ?_;have Gq:=Z (Gp.grow o5 f5 s5 (by have:=HE4.out;have:=HL4.out;simp at*;omega));have HiGq:=Z (HI _ _ HiGp (f5.mono fun k hk e=>by
      rcases Gp.step k e with e|e
      ·exact .inr (.inl e)
      ·exact .inr (.inr e)))
     clear o5 f5 s5;go_wp2_with fail;go_roundw
     case rel=>
      have GE:=Gq.out;rw[qs l] at GE;exact⟨at4,_,GE,by simp,by have:=HLT.out;have:=HL4.out;omega,ESeg.one HLS.out HG4.out,HiGq⟩
     case measure=>
      rw[aE G.st,aE Gq.st];have:=HL4.out;have:=Gq.st.lt;omega
    ·have HZ:=Z hz;clear hz;go_wp2_with fail;refine(jw c a mild _ Gz.st).mono ?_;rintro e y4 (⟨at4,k4,f4,l4,t4,n4,ka4,kn4,kc4,rfl,hP,F,hlt,hG⟩|⟨ch,rfl,hS,F⟩);rotate_left
     ·go_wp2_with fail;exact⟨rfl,.inr (Gz.pan hS F)⟩
     have Gp:=Z (Gz.call hP F (Nat.le_of_lt hlt));have HiGp:=Z (HI _ _ HiGz (F.mono fun _ _ e=> .inl e));have HG4:=Z hG;have HL4:=Z hlt;have HE4:=Z Gz.len;clear hP F hG hlt;go_wp2_with (refine app1 Gp.own Gp.hBw Gp.sm (by simp) (by decide) rfl rfl ?_;intro v5 x5 o5 f5 s5;refine Hid.out ?_);refine Z ?_;have Gq:=Z (Gp.grow o5 f5 s5 (by have:=HE4.out;have:=HL4.out;simp at*;omega));have HiGq:=Z (HI _ _ HiGp (f5.mono fun k hk e=>by
      rcases Gp.step k e with e|e
      ·exact .inr (.inl e)
      ·exact .inr (.inr e)))
     clear o5 f5 s5;go_wp2_with fail;go_roundw
     case rel=>
      have GE:=Gq.out;rw[qs l] at GE;exact⟨at4,_,GE,by simp,by have:=HLT.out;have:=HL4.out;omega,by rw[HG4.1];exact ESeg.semi HLS.out HZ.out,HiGq⟩
     case measure=>
      rw[aE G.st,aE Gq.st];have:=HL4.out;have:=Gq.st.lt;omega
end Go.Proofs.YtnclklfhjbkjhaaGreatDoor
