/- Part of the proof: B7 B8 B9. -/
import Derived.Test.YtnclklfhjbkjhaaGreatDoorAf
set_option maxRecDepth 1000000
set_option maxHeartbeats 40000000
set_option linter.unusedSimpArgs false
namespace Go.Proofs.YtnclklfhjbkjhaaGreatDoor
open Tryz
open Go.RowKit
def zD(c:PC)(B:Nat)(at_:Nat)(at':Nat)(_ _ _:Int)(_:ByteArray)(_:Int)(ks:Value)(w':World):Prop:=SetR c.ts at_ at'∧aH (tk c.ts at_) ⟨#[45]⟩=false∧∃l,KOwn B w' ks l∧l≠[]∧l.length≤3
abbrev GD(c:PC)(at_:Nat)(at':Nat)(k _ _:Int)(_:ByteArray)(_:Int)(_:Value)(_:World):Prop:=Dcl c.ts at_ at'∧k≠4∧k≠5
theorem Env.kset{c:PC}{a:Nat}{m:Bool}{w0 w:World}{bs:List (Nat×Array Value)}{ks:List (Value×List Nd)}{v:Value}{l:List Nd}(h:Env c a m w0 bs ((v,l) ::ks) w){b:Nat}{cs:Array Value}(hb:(b,cs)∈bs)(cs':Array Value):
  KOwn w0.heap.size (w.setRow b cs') v l:=
 (h.own (v,l) List.mem_cons_self).kept (S:=(· =b)) ⟨rfl,rfl,rfl,by simp,fun k _ hk=>setRow_other w b k cs' hk⟩ fun g hg e=>h.dis (b,cs) hb (v,l) List.mem_cons_self (by rw[hg,e])
theorem ry{c:PC}{a a1 a2 a3:Nat}(h3:a3≤c.ts.length)(o:Out c.ts a a1)(e2:a2=a1+1)(s:aH (tk c.ts a1) ⟨#[61]⟩=true)(o3:SetR c.ts a2 a3):SetR c.ts a a3:=by
 subst e2;have hle:=o3.seg.le;have y:=k_ (c:=c) (i:=a1) (by omega) s (by decide) (by decide);exact(o.trans y.1 (NGa.of (aF s (by decide)))).trans_set o3 (NGa.prev y.2)
theorem mg(c:PC)(at_:Nat)(mild:Bool)(w:World)(h:PSt c at_ mild w):
  Calls prog 114 #[.pointer (some ⟨c.bp,0,none⟩)] w (NPost c at_ mild w (GS c at_)):=by
 have E0:=Z (Env.start h);clear h;go_enter func114,ntmps114;go_wp2_with fail;have E1:=Z (E0.allocZ);refine bO E1 (fun w2 E2=>?_);cases h2:aH (tk c.ts (at_)) {data:=#[123]}
 ·have H2:=Z h2;clear h2;go_wp2_with fail;refine nC (fK c (at_) mild _ E2.st) E2 (fun _ _ p=>?_) (fun w3 at3 k3 f3 l3 t3 n3 ka3 kn3 kc3 HG3 HL3 E3=>?_)
  ·go_wp2_with fail;exact⟨rfl,.inr p⟩
  go_wp2_with (refine aw E3.z1 rfl rfl rfl ?_);exact aS E3 HL3 HG3.set rfl rfl rfl
 ·have H2:=Z h2;clear h2;go_wp2_with fail;refine nC (((mX c at_).at at_ qr mild) _ E2.st) E2 (fun _ _ p=>?_) (fun w4 at4 k4 f4 l4 t4 n4 ka4 kn4 kc4 HG4 HL4 E4=>?_)
  ·go_wp2_with fail;exact⟨rfl,.inr p⟩
  go_wp2_with (refine aw E4.z1 rfl rfl rfl ?_);exact aS E4 HL4 HG4.1 rfl rfl rfl
theorem g_(c:PC)(at_:Nat)(mild:Bool)(w:World)(h:PSt c at_ mild w):
  Calls prog 80 #[.pointer (some ⟨c.bp,0,none⟩)] w (NPost c at_ mild w (zD c w.heap.size at_)):=by
 have E0:=Z (Env.start h);clear h;go_enter func80,ntmps80;go_wp2_with fail;have E1:=Z (E0.allocZ);refine nC (jb c (at_) mild _ E1.st) E1 (fun _ _ p=>?_) (fun w2 at2 k2 f2 l2 t2 n2 ka2 kn2 kc2 HG2 HL2 y=>?_)
 ·go_wp2_with fail;exact⟨rfl,.inr p⟩
 have LT2:=Z (af y.out.z1);have E2:=Z (y.out.alloc #[.int .i64 k2,.int .i64 f2,.int .i64 l2,.string t2,.int .u64 n2,.slice ka2 kn2 kc2]);clear y;go_wp2_with fail;refine(ak c _ (at2) mild _ E2.st).mono ?_;rintro e w3 (⟨at3,k3,f3,l3,t3,n3,ka3,kn3,kc3,rfl,hP,F,hlt,hG⟩|⟨ch,rfl,hS,F⟩);rotate_left
 ·go_wp2_with fail;exact⟨rfl,.inr (E2.pan ⟨ch,rfl,hS,F⟩)⟩
 have HG3:=Z hG;have HL3:=Z hlt;have LT3:=Z (af (E2.call hP F).z2);have E3:=Z ((E2.call hP F).alloc #[.int .i64 k3,.int .i64 f3,.int .i64 l3,.string t3,.int .u64 n3,.slice ka3 kn3 kc3]);clear hP F hG hlt;go_wp2_with fail;refine aG (fun x0=>Hid (Env c (at3) mild w [(w3.heap.size,#[.int .i64 k3,.int .i64 f3,.int .i64 l3,.string t3,.int .u64 n3,.slice ka3 kn3 kc3]),(w2.heap.size,#[.int .i64 k2,.int .i64 f2,.int .i64 l2,.string t2,.int .u64 n2,.slice ka2 kn2 kc2]),(w.heap.size,#[.int .i64 0,.int .i64 0,.int .i64 0,.string ⟨#[]⟩,.int .u64 0,.slice none 0 0])] [] x0)) E3 ?_;intro x0 X0;generalize w3.heap.size=b3 at*
 generalize w2.heap.size=b2 at*
 have cb3:∀ (w':World) (o:Nat),w'.heap[b3]? =some (.cells #[.int .i64 k3,.int .i64 f3,.int .i64 l3,.string t3,.int .u64 n3,.slice ka3 kn3 kc3] 26 (0,0))→w'.cell? ⟨b3,o,none⟩=(#[.int .i64 k3,.int .i64 f3,.int .i64 l3,.string t3,.int .u64 n3,.slice ka3 kn3 kc3]:Array Value)[o]? :=fun _ o z=>ab z o
 have cb2:∀ (w':World) (o:Nat),w'.heap[b2]? =some (.cells #[.int .i64 k2,.int .i64 f2,.int .i64 l2,.string t2,.int .u64 n2,.slice ka2 kn2 kc2] 26 (0,0))→w'.cell? ⟨b2,o,none⟩=(#[.int .i64 k2,.int .i64 f2,.int .i64 l2,.string t2,.int .u64 n2,.slice ka2 kn2 kc2]:Array Value)[o]? :=fun _ o z=>ab z o
 have N3:b3≠c.bp:=by have:=(X0).lt1.1;have:=X0.bp0;omega
 have D3:b3≠w.heap.size:=by have:=LT3.out;omega
 have Z3:=Keep.blk ((Fr.refl x0).drew) X0.z1;have N2:b2≠c.bp:=by have:=(X0.dropB).lt1.1;have:=X0.bp0;omega
 have D2:b2≠w.heap.size:=by have:=LT2.out;omega
 have Z2:=Keep.blk ((Fr.refl x0).drew) X0.z2;have N0:w.heap.size≠c.bp:=by have:=X0.bp0;omega
 have Z0:=Keep.blk ((Fr.refl x0).drew) X0.z3;have X1:=Z (X0.keep ((Fr.refl x0).drew));go_region_held2 (fun w'=>w'.heap[b3]? =some (.cells #[.int .i64 k3,.int .i64 f3,.int .i64 l3,.string t3,.int .u64 n3,.slice ka3 kn3 kc3] 26 (0,0))∧w'.heap[b2]? =some (.cells #[.int .i64 k2,.int .i64 f2,.int .i64 l2,.string t2,.int .u64 n2,.slice ka2 kn2 kc2] 26 (0,0)))
  (first|with_reducible exact⟨Z3,Z2⟩|with_reducible exact⟨F5.blk N3 Z3,F5.blk N2 Z2⟩|with_reducible exact⟨Keep.blk ((Fr.refl _).alloc _) (F5.blk N3 Z3),Keep.blk ((Fr.refl _).alloc _) (F5.blk N2 Z2)⟩|with_reducible exact⟨Keep.blk k6 (Keep.blk ((Fr.refl _).alloc _) (F5.blk N3 Z3)),Keep.blk k6 (Keep.blk ((Fr.refl _).alloc _) (F5.blk N2 Z2))⟩|(refine⟨Fr.blk (S:=(· =w.heap.size)) ?_ D3 (Keep.blk k6 (Keep.blk ((Fr.refl _).alloc _) (F5.blk N3 Z3))),Fr.blk (S:=(· =w.heap.size)) ?_ D2 (Keep.blk k6 (Keep.blk ((Fr.refl _).alloc _) (F5.blk N2 Z2)))⟩<;> (repeat(first|(with_reducible exact Fr.refl _)|(with_reducible refine Fr.setIn ?_ _ rfl)))))
  (first|(go_at_call 114;refine(mg c (at3) mild _ X1.st).mono ?_;rintro e w4 (⟨at4,k4,f4,l4,t4,n4,ka4,kn4,kc4,rfl,hP5,F5,hlt,hG⟩|⟨ch,rfl,hS,F⟩);rotate_left;(exact⟨rfl,.inr (X1.pan ⟨ch,rfl,hS,F⟩)⟩))|(go_at_call 27;refine(node_any w.heap.size 6 _ [Nd.mk k2 f2 l2 t2 n2 ka2 kn2 kc2,Nd.mk k3 f3 l3 t3 n3 ka3 kn3 kc3,Nd.mk k4 f4 l4 t4 n4 ka4 kn4 kc4] _ ((X1.call hP5 F5).addNew _ _ rfl (by simp)).k1 (by simp) (by simp)).mono ?_;rintro e wnd ⟨rfl,k6⟩;obtain⟨r0,r1,r2,r3,r4,r5,g0,g1,g2,g3,g4,g5⟩:=c_ (k6.blk (Keep.blk ((Fr.refl w4).alloc (.cells _ 26)) (F5.blk N0 Z0)))))
 have HG4:=Z hG;have HL4:=Z hlt;have E4:=Z ((((X1.call hP5 F5).addNew [Nd.mk k2 f2 l2 t2 n2 ka2 kn2 kc2,Nd.mk k3 f3 l3 t3 n3 ka3 kn3 kc3,Nd.mk k4 f4 l4 t4 n4 ka4 kn4 kc4] #[.int .i64 k2,.int .i64 f2,.int .i64 l2,.string t2,.int .u64 n2,.slice ka2 kn2 kc2,.int .i64 k3,.int .i64 f3,.int .i64 l3,.string t3,.int .u64 n3,.slice ka3 kn3 kc3,.int .i64 k4,.int .i64 f4,.int .i64 l4,.string t4,.int .u64 n4,.slice ka4 kn4 kc4] rfl (by simp))).keep k6);have Z6:=Z E4.z3;rw[lg Z6.out];clear r0 r1 r2 r3 r4 r5 g0 g1 g2 g3 g4 g5 hG hlt hP5 F5 k6 N0 Z0 cb3 N3 D3 Z3 cb2 N2 D2 Z2;go_wp2_with fail;refine qh (aN rfl (setRow_heap _ _ _ _ _ _ Z6) rfl) rfl ?_;exact .inl ⟨at4,_,_,_,_,_,_,_,_,rfl,(E4.fin qr _).1,(E4.fin qr _).2,by have:=HL2.out;have:=HL3.out;have:=HL4.out;omega,⟨ry (by have:=E4.st.lt;omega) HG2.1 HG3.1 HG3.2.1 HG4.out,HG2.2.2,_,E4.kset (.tail _ (.tail _ (.head _))) _,by simp,by simp⟩⟩
theorem zO{ops:Array Oper}{rest:List Oper}{Q:Exit→Act→World→Prop}{a:Act}{w:World}{pos:String}{after:Array Edge}{ty:TypeId}{d p:Tmp}{g:Nat}{k f l n:Int}{t:ByteArray}{ka:Option Addr}{kn kc:Nat}
  (z:w.heap[g]? =some (.cells #[.int .i64 k,.int .i64 f,.int .i64 l,.string t,.int .u64 n,.slice ka kn kc] 26 (0,0))) (hx:a.tmps.getD p undef= .pointer (some ⟨g,5,none⟩))
  (next:wpList prog ops Q rest (a.put (some d) (.slice ka kn kc)) w):
  wpList prog ops Q ({dst:=some d,op:= .load 24 (.tmp p),type:=ty,pos:=pos,after:=after,guard:=none} ::rest) a w:=by
 refine wpList_plain rfl fun K hK=>?_
 have c3:w.cell? ⟨g,5,none⟩=some (.slice ka kn kc):=ab z 5;have hx':a.tmps[p]?.getD undef= .pointer (some ⟨g,5,none⟩):=by simpa using hx
 unfold Oper.wp;simp[execOp,Act.eval,hx',c3,go_sem];exact hK _ _ next
theorem zv{ops:Array Oper}{rest:List Oper}{Q:Exit→Act→World→Prop}{a:Act}{w:World}{d' s x:Tmp}{B B2:Nat}{v v2:Value}{ns ns2:List Nd}{ty':TypeId}{pos':String}{after':Array Edge}
  (hown:KOwn B w v ns) (hown2:KOwn B2 w v2 ns2) (hne:ns2≠[]) (hB:B≤w.heap.size) (hsm:ns.length+ns2.length≤10000000)
  (hs:a.tmps.getD s undef=v) (hx:a.tmps.getD x undef=v2)
  (next:∀v' w',KOwn B w' v' (ns++ns2)→Fr (fun k=>v.ownBlock=some k) w w'→OwnStep w v v'→wpList prog ops Q rest (a.put (some d') v') w'):
  wpList prog ops Q ({dst:=some d',op:= .call {callee:= .builtin .append,args:=#[.tmp s,.tmp x],argTypes:=#[24,24]},type:=ty',pos:=pos',after:=after',guard:=none} ::rest) a w:=by
 obtain⟨g,kc,rfl,-,-,-⟩:=hown2.big hne;refine wpList_step fun K hK=>?_
 exact stepApp rfl (.tmp s) (.tmp x) rfl (by simpa[Act.eval] using hs) hown g ns2 hne (m:=ns2.length) (c:=kc) (by simpa[Act.eval] using hx) rfl (fun i hi j hj=>hown2.cell i hi j hj) hsm hB
  fun g kc w' h1 h2 h3=>hK _ _ (next _ w' h1 h2 h3)
theorem ux{c:PC}{a a1 a2 a3:Nat}(h3:a3≤c.ts.length)(e1:a1=a+1)(s1:aH (tk c.ts a) ⟨#[111,112,116,105,111,110]⟩=true)(o:SetR c.ts a1 a2)(e3:a3=a2+1)(s3:aH (tk c.ts a2) ⟨#[59]⟩=true):Dcl c.ts a a3:=by
 subst e1;subst e3;have hle:=o.seg.le;have k:=gq (c.wf a (by omega)) (by rw[qp [111,112,116,105,111,110]];decide) s1;rw[qp [111,112,116,105,111,110]] at k;exact Dcl.of_semi k.1 (by rw[k.2];decide) o (c.sym (by omega) s3 (by decide))
theorem cL(c:PC)(at_:Nat)(mild:Bool)(w:World)(h:PSt c at_ mild w):
  Calls prog 52 #[.pointer (some ⟨c.bp,0,none⟩)] w (NPost c at_ mild w (GD c at_)):=by
 have E0:=Z (Env.start h);clear h;go_enter func52,ntmps52;go_wp2_with fail;have E1:=Z (E0.allocZ);refine nC (aY c _ (at_) mild _ E1.st) E1 (fun _ _ p=>?_) (fun w2 at2 k2 f2 l2 t2 n2 ka2 kn2 kc2 HG2 HL2 y=>?_)
 ·go_wp2_with fail;exact⟨rfl,.inr p⟩
 have LT2:=Z (af y.out.z1);have E2:=Z (y.out.alloc #[.int .i64 k2,.int .i64 f2,.int .i64 l2,.string t2,.int .u64 n2,.slice ka2 kn2 kc2]);clear y;go_wp2_with fail;refine(g_ c (at2) mild _ E2.st).mono ?_;rintro e w3 (⟨at3,k3,f3,l3,t3,n3,ka3,kn3,kc3,rfl,hP,F,hlt,hG⟩|⟨ch,rfl,hS,F⟩);rotate_left
 ·go_wp2_with fail;exact⟨rfl,.inr (E2.pan ⟨ch,rfl,hS,F⟩)⟩
 have HG3:=Z hG;have HL3:=Z hlt;have LT3:=Z (af (E2.call hP F).z2);have E3:=Z ((E2.call hP F).alloc #[.int .i64 k3,.int .i64 f3,.int .i64 l3,.string t3,.int .u64 n3,.slice ka3 kn3 kc3]);clear hP F hG hlt;obtain⟨kl,hkl,hkn,hk3⟩:=HG3.2.2;have HK:=Z (hkl.keep ((Fr.refl w3).alloc (.cells #[.int .i64 k3,.int .i64 f3,.int .i64 l3,.string t3,.int .u64 n3,.slice ka3 kn3 kc3] 26)));have HKn:=Z hkn;have HK3:=Z hk3;clear hkl hkn hk3;go_wp2_with (first|(refine cE E3.z2 rfl ?_)|(refine bs1 rfl ?_;refine Hid.out ?_));refine Z ?_;have E4:=E3.addNew [Nd.mk k2 f2 l2 t2 n2 ka2 kn2 kc2] #[.int .i64 k2,.int .i64 f2,.int .i64 l2,.string t2,.int .u64 n2,.slice ka2 kn2 kc2] rfl (by simp);rw[World.size_alloc] at E4;have E4:=Z E4;have HK':=Z (HK.keep ((Fr.refl _).alloc (.cells #[.int .i64 k2,.int .i64 f2,.int .i64 l2,.string t2,.int .u64 n2,.slice ka2 kn2 kc2] 26)));go_wp2_with (first|(refine zO E4.z1 rfl ?_)|(refine zv E4.k1 HK'.out HKn.out E4.fr.size (by have:=HK3.out;simp;omega) rfl rfl ?_;intro vx wx o2 f2 s2;refine Hid.out ?_));refine Z ?_;have Ex:=Z (E4.grow o2 f2 s2);clear o2 f2 s2 HK HK';go_wp2_with fail;refine nC (ak c _ (at3) mild _ Ex.st) Ex (fun _ _ p=>?_) (fun w5 fS k5 f5 l5 t5 n5 ka5 kn5 kc5 HG5 HL5 E5=>?_)
 ·go_wp2_with fail;exact⟨rfl,.inr p⟩
 go_wp2_with (refine aB E5 (by have:=HK3.out;simp;omega) (by simp) (by decide) rfl rfl ?_;intro v6 w6 E6);refine Z ?_;go_wp2_with fail;obtain⟨g7,kc7,hv,-,-,-⟩:=E6.k1.big (by simp);subst hv;refine kC (node_any w.heap.size 6 _ _ _ E6.k1 (by simp) (by have:=HK3.out;simp;omega)) E6 (fun w7 E7=>?_);go_wp2_with (refine aw E7.z3 rfl rfl rfl ?_);refine qh (aN rfl (setRow_heap _ _ _ _ _ _ E7.z3) rfl) rfl ?_;exact .inl ⟨fS,_,_,_,_,_,_,_,_,rfl,(E7.fin qr _).1,(E7.fin qr _).2,by have:=HL2.out;have:=HL3.out;have:=HL5.out;omega,⟨ux (by have:=E7.st.lt;omega) HG2.1 HG2.2.1 HG3.1 HG5.1 HG5.2.1,by decide,by decide⟩⟩
def vY(c:PC)(B:Nat)(v:Value)(at_:Nat)(mild:Bool)(w:World)(e:Ending)(w':World):Prop:=
 (∃at' v' l',e= .returned v'∧PSt c at' mild w'∧KOwn B w' v' l'∧l'≠[]∧Fr (KF c.bp v) w w'∧OwnStep w v v'∧at_≤at'∧l'.length≤at'∧(at'=at_∨(Out c.ts at_ at'∧(tk c.ts (at'-1)).kind≠2∧aH (tk c.ts at_) ⟨#[45]⟩=false)))∨
 (∃ch,e= .panicked ch∧gV c ch w'∧Fr (KF c.bp v) w w')
theorem PPost.cpan{c:PC}{B:Nat}{v:Value}{at_:Nat}{mild:Bool}{w:World}{e:Ending}{w':World}(h:PPost c w e w'):vY c B v at_ mild w e w':=by
 obtain⟨ch,h1,h2,h3⟩:=h;exact .inr ⟨ch,h1,h2,KF.of h3⟩
theorem aW(c:PC)(B:Nat)(v:Value)(l:List Nd)(hne:l≠[])(at_:Nat)(mild:Bool)(w:World)(h:PSt c at_ mild w)(hown:KOwn B w v l)(hbp:c.bp<B)(hbt:c.bt<B)(hB:B≤w.heap.size)(hl:l.length≤at_):
  Calls prog 87 #[.pointer (some ⟨c.bp,0,none⟩),v] w (vY c B v at_ mild w):=by
 have E0:=Z (Env.start h);have HO:=Z hown;have HNe:=Z hne;have HBp:=Z hbp;have HBt:=Z hbt;have HB:=Z hB;have HL:=Z hl;clear h hown hne hbp hbt hB hl;go_enter func87,ntmps87;go_wp2_with fail;refine bO E0 (fun w1 E1=>?_);cases h1:aH (tk c.ts (at_)) {data:=#[91]}
 ·have H1:=Z h1;clear h1;go_wp2_with fail;go_ret;exact .inl ⟨at_,v,l,rfl,E1.st,HO.kept E1.fr (fun g hg e=>by have:=(HO.lt hg).1;have:=HBp.out;omega),HNe,KF.of E1.fr,OwnStep.refl _ _,Nat.le_refl _,HL,.inl rfl⟩
 ·have H1:=Z h1;clear h1;go_wp2_with fail;refine(ak c _ (at_) mild _ E1.st).mono ?_;rintro e w2 (⟨at2,k2,f2,l2,t2,n2,ka2,kn2,kc2,rfl,hP,F,hlt,hG⟩|⟨ch,rfl,hS,F⟩);rotate_left
  ·go_wp2_with fail;exact⟨rfl,PPost.cpan (E1.pan ⟨ch,rfl,hS,F⟩)⟩
  have HG2:=Z hG;have HL2:=Z hlt;have E2:=Z (E1.call hP F);clear hP F hG hlt;go_wp2_with (refine bs1 rfl ?_;refine Hid.out ?_);refine Z ?_;have E3:=Z (E2.addNew [Nd.mk k2 f2 l2 t2 n2 ka2 kn2 kc2] #[.int .i64 k2,.int .i64 f2,.int .i64 l2,.string t2,.int .u64 n2,.slice ka2 kn2 kc2] rfl (by simp));go_wp2_with fail;refine(dW c 80 #[.pointer (some ⟨c.bp,0,none⟩)] #[] w.heap.size _ [Nd.mk k2 f2 l2 t2 n2 ka2 kn2 kc2] at2 mild _ (SetR c.ts) (fun _=>True) (fun _ _ _ _=>trivial) trivial (fun _ _=>by kernel_rfl) (fun a w1 ha hs _=>(g_ c a mild w1 hs).mono fun e w' hh=>hh.imp (fun⟨at',k,f,l,t,n,ka,kn,kc,h1,h2,h3,h4,h5⟩=>⟨at',k,f,l,t,n,ka,kn,kc,h1,h2,h3,h4,h5.1⟩) id) E3.st E3.k1 E3.bp0 E3.bt0 E3.fr.size (by have:=HL2.out;simp;omega)).mono ?_;rintro e w4 (⟨at4,v4,l4,rfl,hP,hO,hN,F,hS,hlt,hlen,hG⟩|⟨ch,rfl,hS,F⟩);rotate_left
  ·go_wp2_with fail;exact⟨rfl,PPost.cpan (E3.lpan hS F)⟩
  have HG4:=Z hG;have HL4:=Z hlt;have HM4:=Z hlen;have E4:=Z (E3.lst hP hO F hS);clear hP hO hN F hS hlt hlen hG;go_wp2_with fail;refine(ak c _ (at4) mild _ E4.st).mono ?_;rintro e w5 (⟨fS,k5,f5,l5,t5,n5,ka5,kn5,kc5,rfl,hP,F,hlt,hG⟩|⟨ch,rfl,hS,F⟩);rotate_left
  ·go_wp2_with fail;exact⟨rfl,PPost.cpan (E4.pan ⟨ch,rfl,hS,F⟩)⟩
  have HG5:=Z hG;have HL5:=Z hlt;have E5:=Z (E4.call hP F);clear hP F hG hlt;go_wp2_with (refine aB E5 (E4.sm HM4.out) (by simp) (by decide) rfl rfl ?_;intro v6 w6 E6);refine Z ?_;go_wp2_with fail;obtain⟨g7,kc7,hv,-,-,-⟩:=E6.k1.big (by simp);subst hv;refine kC (node_any w.heap.size 9 _ _ _ E6.k1 (by simp) (E6.sm (by have:=HM4.out;have:=HL5.out;simp at*;omega))) E6 (fun w7 E7=>?_);have HO2:=Z (HO.kept E7.fr (fun g hg e=>by have:=(HO.lt hg).1;have:=HBp.out;omega));go_wp2_with (refine app1 HO2.out (Nat.le_trans HB.out E7.fr.size) (by have:=HL.out;have:=E7.st.lt;have:=c.small;have:=HL2.out;have:=HL4.out;have:=HL5.out;omega) (by simp) (by decide) rfl rfl ?_;intro vx wx o2 f2 s2;refine Hid.out ?_);refine Z ?_;go_wp2_with fail;go_ret;have hs:=lf (by have:=E7.st.lt;omega) HG2.1 HG2.2.1 (fm (fun _ _ _ h=>h) HG4 (by have:=E7.st.lt;have:=HL5.out;omega)).1 HG5.1 HG5.2.1;have GE:GEnv c B v fS mild w v l w7:=⟨E7.st,HO2,KF.of E7.fr,OwnStep.refl _ _,HBp,HBt,HB,by have:=HL.out;have:=HL2.out;have:=HL4.out;have:=HL5.out;omega⟩;have GF:=GE.grow o2 f2 s2 (by have:=HL.out;have:=HL2.out;have:=HL4.out;have:=HL5.out;simp;omega);exact .inl ⟨fS,vx,_,rfl,GF.st,GF.own,by simp,GF.fr,GF.step,by have:=HL2.out;have:=HL4.out;have:=HL5.out;omega,GF.len,.inr hs⟩
end Go.Proofs.YtnclklfhjbkjhaaGreatDoor
namespace Go.Proofs.YtnclklfhjbkjhaaGreatDoor
open Tryz
open Go.RowKit
theorem iI{c:PC}{i:Nat}{s:ByteArray}{l:List UInt8}(hi:i<c.ts.length)(hs:s.toList=l)(hl:l.length≠1)(h:aH (tk c.ts i) s=true):(tk c.ts i).kind=1∧(tk c.ts i).raw.toList=l:=by
 have:=gq (c.wf i hi) (by rw[hs];exact hl) h;rw[hs] at this;exact this
theorem cX{c:PC}{a0 a a1:Nat}{s:ByteArray}{l:List UInt8}(h1:a1≤c.ts.length)(hs:s.toList=l)(hl:l.length≠1)(o:Out c.ts a0 a)(e1:a1=a+1)(s1:aH (tk c.ts a) s=true):Out c.ts a0 a1∧(tk c.ts (a1-1)).kind≠2:=by
 subst e1;have k:=iI (by omega) hs hl s1;exact⟨o.trans (Out.plain (.inl k.1)) (NGa.of (bW (by omega) (by rw[k.1];decide))),by rw[show a+1-1=a from rfl,k.1];decide⟩
def IP(c:PC)(i j:Nat)(e:Bool):Prop:=i=j∨(i<j∧InR c.ts i j∧(e=true→(tk c.ts (j-1)).kind≠2))
namespace IP
variable {c:PC} {i j k:Nat} {e e':Bool}
theorem nil:IP c i i e:=Or.inl rfl
theorem le(h:IP c i j e):i≤j:=by rcases h with h|h<;>omega
theorem inr(h:IP c i j e):InR c.ts i j:=by
 rcases h with rfl|h
 ·exact InR.nil
 ·exact h.2.1
theorem ext(h:IP c i j e)(p:InR c.ts j k)(lt:j<k)(hj:e=true∨aH (tk c.ts j) ⟨#[45]⟩=false)(l:e'=true→(tk c.ts (k-1)).kind≠2):IP c i k e':=by
 rcases h with rfl|⟨h1,h2,h3⟩
 ·exact Or.inr ⟨lt,p,l⟩
 ·refine Or.inr ⟨by omega,h2.trans p ?_,l⟩;rcases hj with hj|hj
  ·exact NGa.prev (h3 hj)
  ·exact NGa.of hj
theorem word{s:ByteArray}{l:List UInt8}{a b d n:Int}{t:ByteArray}{v:Value}{w:World}(h:IP c i j e)(hk:k≤c.ts.length)(hs:s.toList=l)(hl:l.length≠1)(g:G1 c s j k a b d t n v w):IP c i k true:=by
 obtain⟨rfl,g,-⟩:=g;have kk:=iI (by omega) hs hl g;exact h.ext (Out.plain (.inl kk.1)).set.inr (by omega) (.inr (bW (by omega) (by rw[kk.1];decide))) fun _=>by rw[show j+1-1=j from rfl,kk.1];decide
theorem sym{x:UInt8}{a b d n:Int}{t:ByteArray}{v:Value}{w:World}(h:IP c i j e)(hk:k≤c.ts.length)(hb:¬ (x=95∨(97≤x∧x≤122)∨(65≤x∧x≤90)))
  (hx:x≠40∧x≠123∧x≠91∧x≠60∧x≠41∧x≠125∧x≠93∧x≠62∧x≠59) (hm:x≠45) (g:G1 c ⟨#[x]⟩ j k a b d t n v w):IP c i k true:=by
 obtain⟨rfl,g,-⟩:=g;have y:=k_ (c:=c) (i:=j) (by omega) g hb hx;exact h.ext y.1.set.inr (by omega) (.inr (aF g hm)) fun _=>y.2
theorem semi{a b d n:Int}{t:ByteArray}{v:Value}{w:World}(h:IP c i j e)(hk:k≤c.ts.length)(g:G1 c ⟨#[59]⟩ j k a b d t n v w):IP c i k true:=by
 obtain⟨rfl,g,-⟩:=g;have y:=c.sym (i:=j) (by omega) g (by decide);exact h.ext (Dcl.empty y).inr (by omega) (.inr (aF g (by decide))) fun _=>by rw[show j+1-1=j from rfl,y.1];decide
theorem name{a b d n:Int}{t:ByteArray}{v:Value}{w:World}(h:IP c i j e)(hk:k≤c.ts.length)(g:GN c j k a b d t n v w):IP c i k true:=by
 have y:=cD (c:=c) (a:=j) hk g.1 g.2.1;exact h.ext y.1.set.inr (by have:=g.1;omega) (.inr y.2.2) fun _=>y.2.1
theorem whole{a b d n:Int}{t:ByteArray}{v:Value}{w:World}(h:IP c i j e)(hk:k≤c.ts.length)(g:GW c j k a b d t n v w):IP c i k false:=by
 obtain⟨rfl,g⟩:=g;exact h.ext (cQ rfl (.inl g)).set.inr (by omega) (.inr (bW (by omega) (by rw[g];decide))) fun h=>by cases h
theorem go{a b d n:Int}{t:ByteArray}{v:Value}{w:World}(h:IP c i j e)(lt:j<k)(g:GO c j k a b d t n v w):IP c i k true:=h.ext g.1.set.inr lt (.inr g.2.2) fun _=>g.2.1
theorem go2{a b d n:Int}{t:ByteArray}{v:Value}{w:World}(h:IP c i j true)(lt:j<k)(g:kS c j k a b d t n v w):IP c i k false:=h.ext g.set.inr lt (.inl rfl) fun h=>by cases h
theorem path{dot:Bool}{a b d n:Int}{t:ByteArray}{v:Value}{w:World}(h:IP c i j e)(hk:k≤c.ts.length)(g:PathG c dot j k a b d t n v w):IP c i k true:=by
 obtain⟨o,l,f,lt⟩:=g.out hk;exact h.ext o.set.inr lt (.inr f) fun _=>by rw[l];decide
theorem comp(h:IP c i j e)(lt:j≤k)(g:k=j∨(Out c.ts j k∧(tk c.ts (k-1)).kind≠2∧aH (tk c.ts j) ⟨#[45]⟩=false)):IP c i k false:=by
 rcases g with rfl|g
 ·rcases h with h|h
  ·exact Or.inl h
  ·exact Or.inr ⟨h.1,h.2.1,fun h=>by cases h⟩
 ·by_cases e:j=k
  ·subst e;rcases h with h|h
   ·exact Or.inl h
   ·exact Or.inr ⟨h.1,h.2.1,fun h=>by cases h⟩
  ·exact h.ext g.1.set.inr (by omega) (.inr g.2.2) fun h=>by cases h
theorem wrap{j1 j2:Nat}{x y:UInt8}{a b d n:Int}{t:ByteArray}{v:Value}{w:World}{a' b' d' n':Int}{t':ByteArray}{v':Value}{w':World}(hb:(x=40∧y=41)∨(x=123∧y=125)∨(x=91∧y=93)∨(x=60∧y=62))
  (h:IP c i j e) (hk:k≤c.ts.length) (g:G1 c ⟨#[x]⟩ j j1 a b d t n v w) (o:InR c.ts j1 j2) (g':G1 c ⟨#[y]⟩ j2 k a' b' d' t' n' v' w'):IP c i k true:=by
 obtain⟨rfl,g,-⟩:=g;obtain⟨rfl,g',-⟩:=g';have hle:=o.seg.le;have y1:=c.sym (i:=j) (by omega) g (by rcases hb with⟨rfl,rfl⟩|⟨rfl,rfl⟩|⟨rfl,rfl⟩|⟨rfl,rfl⟩<;>decide);have y3:=c.sym (i:=j2) (by omega) g' (by rcases hb with⟨rfl,rfl⟩|⟨rfl,rfl⟩|⟨rfl,rfl⟩|⟨rfl,rfl⟩<;>decide);exact h.ext (SetR.wrap y1 y3 (by rcases hb with h|h|h|h<;>simp[h]) o).inr (by omega) (.inr (aF g (by rcases hb with⟨rfl,rfl⟩|⟨rfl,rfl⟩|⟨rfl,rfl⟩|⟨rfl,rfl⟩<;>decide))) fun _=>by rw[show j2+1-1=j2 from rfl,y3.1];decide
end IP
def pR(c:PC)(at_:Nat)(at':Nat)(_ _ _:Int)(_:ByteArray)(_:Int)(_:Value)(_:World):Prop:=InR c.ts at_ at'∧(tk c.ts (at'-1)).kind≠2
theorem IP.el{c:PC}{i j:Nat}(h:IP c i j true)(lt:i<j):InR c.ts i j∧(tk c.ts (j-1)).kind≠2:=by
 rcases h with h|h
 ·omega
 ·exact⟨h.2.1,h.2.2 rfl⟩
theorem Dcl.el{c:PC}{i j:Nat}(h:Dcl c.ts i j):InR c.ts i j∧(tk c.ts (j-1)).kind≠2:=⟨h.inr,h.last⟩
theorem nS(c:PC)(at_:Nat)(mild:Bool)(w:World)(h:PSt c at_ mild w):
  Calls prog 117 #[.pointer (some ⟨c.bp,0,none⟩),.bool false] w (NPost c at_ mild w (kS c at_)):=by
 have E0:=Z (Env.start h);clear h;go_enter func117,ntmps117;go_wp2_with fail;have E1:=Z (E0.allocZ);refine bO E1 (fun w2 E2=>?_);cases h2:aH (tk c.ts (at_)) {data:=#[45]}
 ·have H2:=Z h2;clear h2;go_wp2_with fail;refine nC (bK c (at_) mild _ E2.st) E2 (fun _ _ p=>?_) (fun w3 at3 k3 f3 l3 t3 n3 ka3 kn3 kc3 HG3 HL3 E3=>?_)
  ·go_wp2_with fail;exact⟨rfl,.inr p⟩
  go_wp2_with (refine bs1 rfl ?_;refine Hid.out ?_);refine Z ?_;have E4:=Z (E3.addNew [Nd.mk k3 f3 l3 t3 n3 ka3 kn3 kc3] #[.int .i64 k3,.int .i64 f3,.int .i64 l3,.string t3,.int .u64 n3,.slice ka3 kn3 kc3] rfl (by simp));go_wp2_with fail;refine bO E4 (fun w5 E5=>?_);cases h5:aH (tk c.ts (at3)) {data:=#[116,111]}
  ·have H5:=Z h5;clear h5;go_wp2_with fail;refine kC (node_any w.heap.size 20 _ [Nd.mk k3 f3 l3 t3 n3 ka3 kn3 kc3] _ E5.k1 (by simp) (by simp)) E5 (fun w6 E6=>?_);go_wp2_with (refine aw E6.z1 rfl rfl rfl ?_);exact aS E6 HL3 ((cQ HG3.1 (.inl HG3.2))) rfl rfl rfl
  ·have H5:=Z h5;clear h5;go_wp2_with fail;refine nC (aY c _ (at3) mild _ E5.st) E5 (fun _ _ p=>?_) (fun w7 at7 k7 f7 l7 t7 n7 ka7 kn7 kc7 HG7 HL7 E7=>?_)
   ·go_wp2_with fail;exact⟨rfl,.inr p⟩
   go_wp2_with (refine aB E7 (by simp) (by simp) (by decide) rfl rfl ?_;intro v8 w8 E8);refine Z ?_;go_wp2_with fail;refine bO E8 (fun w9 E9=>?_);cases h9:aH (tk c.ts (at7)) {data:=#[109,97,120]}
   ·have H9:=Z h9;clear h9;go_wp2_with fail;refine bO E9 (fun w10 E10=>?_);cases h10:aH (tk c.ts (at7)) {data:=#[45]}
    ·have H10:=Z h10;clear h10;go_wp2_with fail;refine nC (bK c (at7) mild _ E10.st) E10 (fun _ _ p=>?_) (fun w11 at11 k11 f11 l11 t11 n11 ka11 kn11 kc11 HG11 HL11 E11=>?_)
     ·go_wp2_with fail;exact⟨rfl,.inr p⟩
     go_wp2_with (refine aB E11 (by simp) (by simp) (by decide) rfl rfl ?_;intro v12 w12 E12);refine Z ?_;go_wp2_with fail;obtain⟨g13,kc13,hv,-,-,-⟩:=E12.k1.big (by simp);subst hv;refine kC (node_any w.heap.size 20 _ _ _ E12.k1 (by simp) (by simp)) E12 (fun w13 E13=>?_);go_wp2_with (refine aw E13.z1 rfl rfl rfl ?_);refine qh (aN rfl (setRow_heap _ _ _ _ _ _ E13.z1) rfl) rfl ?_;exact .inl ⟨at11,_,_,_,_,_,_,_,_,rfl,(E13.fin qr _).1,(E13.fin qr _).2,by have:=HL3.out;have:=HL7.out;have:=HL11.out;omega,(cX (l:=[116,111]) (by have:=E13.st.lt;have:=HL11.out;omega) (qp _) (by decide) (cQ HG3.1 (.inl HG3.2)) HG7.1 HG7.2.1).1.trans (cQ HG11.1 (.inl HG11.2)) (NGa.prev (cX (l:=[116,111]) (by have:=E13.st.lt;have:=HL11.out;omega) (qp _) (by decide) (cQ HG3.1 (.inl HG3.2)) HG7.1 HG7.2.1).2)⟩
    ·have H10:=Z h10;clear h10;go_wp2_with fail;refine(ap c (at7) mild _ E10.st).mono ?_;rintro e wq ⟨ch,rfl,hS,F⟩;go_wp2_with fail;exact⟨rfl,.inr (E10.pan ⟨ch,rfl,hS,F⟩)⟩
   ·have H9:=Z h9;clear h9;go_wp2_with fail;refine nC (aY c _ (at7) mild _ E9.st) E9 (fun _ _ p=>?_) (fun w14 at14 k14 f14 l14 t14 n14 ka14 kn14 kc14 HG14 HL14 E14=>?_)
    ·go_wp2_with fail;exact⟨rfl,.inr p⟩
    go_wp2_with (refine aB E14 (by simp) (by simp) (by decide) rfl rfl ?_;intro v15 w15 E15);refine Z ?_;go_wp2_with fail;obtain⟨g16,kc16,hv,-,-,-⟩:=E15.k1.big (by simp);subst hv;refine kC (node_any w.heap.size 20 _ _ _ E15.k1 (by simp) (by simp)) E15 (fun w16 E16=>?_);go_wp2_with (refine aw E16.z1 rfl rfl rfl ?_);refine qh (aN rfl (setRow_heap _ _ _ _ _ _ E16.z1) rfl) rfl ?_;exact .inl ⟨at14,_,_,_,_,_,_,_,_,rfl,(E16.fin qr _).1,(E16.fin qr _).2,by have:=HL3.out;have:=HL7.out;have:=HL14.out;omega,(cX (l:=[109,97,120]) (by have:=E16.st.lt;omega) (qp _) (by decide) (cX (l:=[116,111]) (by have:=E16.st.lt;have:=HL14.out;omega) (qp _) (by decide) (cQ HG3.1 (.inl HG3.2)) HG7.1 HG7.2.1).1 HG14.1 HG14.2.1).1⟩
 ·have H2:=Z h2;clear h2;go_wp2_with fail;refine(ap c (at_) mild _ E2.st).mono ?_;rintro e wq ⟨ch,rfl,hS,F⟩;go_wp2_with fail;exact⟨rfl,.inr (E2.pan ⟨ch,rfl,hS,F⟩)⟩
theorem p6(c:PC)(at_:Nat)(mild:Bool)(w:World)(h:PSt c at_ mild w):
  Calls prog 117 #[.pointer (some ⟨c.bp,0,none⟩),.bool true] w (NPost c at_ mild w (kS c at_)):=by
 have E0:=Z (Env.start h);clear h;go_enter func117,ntmps117;go_wp2_with fail;have E1:=Z (E0.allocZ);refine nC (ct c (at_) mild _ E1.st) E1 (fun _ _ p=>?_) (fun w2 at2 k2 f2 l2 t2 n2 ka2 kn2 kc2 HG2 HL2 E2=>?_)
 ·go_wp2_with fail;exact⟨rfl,.inr p⟩
 go_wp2_with (refine bs1 rfl ?_;refine Hid.out ?_);refine Z ?_;have E3:=Z (E2.addNew [Nd.mk k2 f2 l2 t2 n2 ka2 kn2 kc2] #[.int .i64 k2,.int .i64 f2,.int .i64 l2,.string t2,.int .u64 n2,.slice ka2 kn2 kc2] rfl (by simp));go_wp2_with fail;refine bO E3 (fun w4 E4=>?_);cases h4:aH (tk c.ts (at2)) {data:=#[116,111]}
 ·have H4:=Z h4;clear h4;go_wp2_with fail;refine kC (node_any w.heap.size 20 _ [Nd.mk k2 f2 l2 t2 n2 ka2 kn2 kc2] _ E4.k1 (by simp) (by simp)) E4 (fun w5 E5=>?_);go_wp2_with (refine aw E5.z1 rfl rfl rfl ?_);exact aS E5 HL2 ((HG2)) rfl rfl rfl
 ·have H4:=Z h4;clear h4;go_wp2_with fail;refine nC (aY c _ (at2) mild _ E4.st) E4 (fun _ _ p=>?_) (fun w6 at6 k6 f6 l6 t6 n6 ka6 kn6 kc6 HG6 HL6 E6=>?_)
  ·go_wp2_with fail;exact⟨rfl,.inr p⟩
  go_wp2_with (refine aB E6 (by simp) (by simp) (by decide) rfl rfl ?_;intro v7 w7 E7);refine Z ?_;go_wp2_with fail;refine bO E7 (fun w8 E8=>?_);cases h8:aH (tk c.ts (at6)) {data:=#[109,97,120]}
  ·have H8:=Z h8;clear h8;go_wp2_with fail;refine nC (ct c (at6) mild _ E8.st) E8 (fun _ _ p=>?_) (fun w9 at9 k9 f9 l9 t9 n9 ka9 kn9 kc9 HG9 HL9 E9=>?_)
   ·go_wp2_with fail;exact⟨rfl,.inr p⟩
   go_wp2_with (refine aB E9 (by simp) (by simp) (by decide) rfl rfl ?_;intro v10 w10 E10);refine Z ?_;go_wp2_with fail;obtain⟨g11,kc11,hv,-,-,-⟩:=E10.k1.big (by simp);subst hv;refine kC (node_any w.heap.size 20 _ _ _ E10.k1 (by simp) (by simp)) E10 (fun w11 E11=>?_);go_wp2_with (refine aw E11.z1 rfl rfl rfl ?_);refine qh (aN rfl (setRow_heap _ _ _ _ _ _ E11.z1) rfl) rfl ?_;exact .inl ⟨at9,_,_,_,_,_,_,_,_,rfl,(E11.fin qr _).1,(E11.fin qr _).2,by have:=HL2.out;have:=HL6.out;have:=HL9.out;omega,(cX (l:=[116,111]) (by have:=E11.st.lt;have:=HL9.out;omega) (qp _) (by decide) (HG2) HG6.1 HG6.2.1).1.trans HG9 (NGa.prev (cX (l:=[116,111]) (by have:=E11.st.lt;have:=HL9.out;omega) (qp _) (by decide) (HG2) HG6.1 HG6.2.1).2)⟩
  ·have H8:=Z h8;clear h8;go_wp2_with fail;refine nC (aY c _ (at6) mild _ E8.st) E8 (fun _ _ p=>?_) (fun w12 at12 k12 f12 l12 t12 n12 ka12 kn12 kc12 HG12 HL12 E12=>?_)
   ·go_wp2_with fail;exact⟨rfl,.inr p⟩
   go_wp2_with (refine aB E12 (by simp) (by simp) (by decide) rfl rfl ?_;intro v13 w13 E13);refine Z ?_;go_wp2_with fail;obtain⟨g14,kc14,hv,-,-,-⟩:=E13.k1.big (by simp);subst hv;refine kC (node_any w.heap.size 20 _ _ _ E13.k1 (by simp) (by simp)) E13 (fun w14 E14=>?_);go_wp2_with (refine aw E14.z1 rfl rfl rfl ?_);refine qh (aN rfl (setRow_heap _ _ _ _ _ _ E14.z1) rfl) rfl ?_;exact .inl ⟨at12,_,_,_,_,_,_,_,_,rfl,(E14.fin qr _).1,(E14.fin qr _).2,by have:=HL2.out;have:=HL6.out;have:=HL12.out;omega,(cX (l:=[109,97,120]) (by have:=E14.st.lt;omega) (qp _) (by decide) (cX (l:=[116,111]) (by have:=E14.st.lt;have:=HL12.out;omega) (qp _) (by decide) (HG2) HG6.1 HG6.2.1).1 HG12.1 HG12.2.1).1⟩
def GP(c:PC)(at_:Nat)(at':Nat)(_ _ _:Int)(_:ByteArray)(_:Int)(_:Value)(_:World):Prop:=∀i,i≤at_→∀e,IP c i at_ e→IP c i at' true
theorem mz(c:PC)(at_:Nat)(mild:Bool)(w:World)(h:PSt c at_ mild w):
  Calls prog 124 #[.pointer (some ⟨c.bp,0,none⟩)] w (NPost c at_ mild w (GP c at_)):=by
 have E0:=Z (Env.start h);clear h;go_enter func124,ntmps124;go_wp2_with fail;have E1:=Z (E0.allocZ);refine nC (ak c _ (at_) mild _ E1.st) E1 (fun _ _ p=>?_) (fun w2 at2 k2 f2 l2 t2 n2 ka2 kn2 kc2 HG2 HL2 E2=>?_)
 ·go_wp2_with fail;exact⟨rfl,.inr p⟩
 go_wp2_with (refine bs1 rfl ?_;refine Hid.out ?_);refine Z ?_;have E3:=Z (E2.addNew [Nd.mk k2 f2 l2 t2 n2 ka2 kn2 kc2] #[.int .i64 k2,.int .i64 f2,.int .i64 l2,.string t2,.int .u64 n2,.slice ka2 kn2 kc2] rfl (by simp));go_wp2_with fail;refine bO E3 (fun w4 E4=>?_);cases h4:aH (tk c.ts (at2)) {data:=#[115,116,114,101,97,109]}
 ·have H4:=Z h4;clear h4;go_wp2_with fail;refine nC (dk c (at2) mild _ E4.st) E4 (fun _ _ p=>?_) (fun w5 fS k5 f5 l5 t5 n5 ka5 kn5 kc5 HG5 HL5 E5=>?_)
  ·go_wp2_with fail;exact⟨rfl,.inr p⟩
  go_wp2_with (refine aB E5 (by simp) (by simp) (by decide) rfl rfl ?_;intro v6 w6 E6);refine Z ?_;go_wp2_with fail;have I5:=Z (IP.path (IP.nil (e:=true)) (by have:=E6.st.lt;omega) HG5);refine nC (ak c _ (fS) mild _ E6.st) E6 (fun _ _ p=>?_) (fun w7 at7 k7 f7 l7 t7 n7 ka7 kn7 kc7 HG7 HL7 E7=>?_)
  ·go_wp2_with fail;exact⟨rfl,.inr p⟩
  go_wp2_with (refine aB E7 (by simp) (by simp) (by decide) rfl rfl ?_;intro v8 w8 E8);refine Z ?_;go_wp2_with fail;obtain⟨g9,kc9,hv,-,-,-⟩:=E8.k1.big (by simp);subst hv;refine kC (node_any w.heap.size 24 _ _ _ E8.k1 (by simp) (by simp)) E8 (fun w9 E9=>?_);go_wp2_with (refine aw E9.z1 rfl rfl rfl ?_);refine qh (aN rfl (setRow_heap _ _ _ _ _ _ E9.z1) rfl) rfl ?_;exact .inl ⟨at7,_,_,_,_,_,_,_,_,rfl,(E9.fin qr _).1,(E9.fin qr _).2,by have:=HL2.out;have:=I5.le;have:=HL7.out;omega,fun i hi e h=>IP.wrap (by simp) h (by have:=E9.st.lt;omega) HG2.out I5.inr HG7.out⟩
 ·have H4:=Z h4;clear h4;go_wp2_with fail;refine(cS c _ (at2) mild _ E4.st).mono ?_;rintro e w10 ⟨⟨b,rfl⟩,kk⟩;have E10:=Z (E4.keep kk);clear kk;cases b
  ·go_wp2_with fail;refine(cS c _ (at2) mild _ E10.st).mono ?_;rintro e w11 ⟨⟨b,rfl⟩,kk⟩;have E11:=Z (E10.keep kk);clear kk;cases b
   ·go_wp2_with fail;refine nC (aY c _ (at2) mild _ E11.st) E11 (fun _ _ p=>?_) (fun w12 at12 k12 f12 l12 t12 n12 ka12 kn12 kc12 HG12 HL12 E12=>?_)
    ·go_wp2_with fail;exact⟨rfl,.inr p⟩
    go_wp2_with (refine aB E12 (by simp) (by simp) (by decide) rfl rfl ?_;intro v13 w13 E13);refine Z ?_;go_wp2_with fail;have I12:=Z (IP.word (IP.nil (e:=true)) (by have:=E13.st.lt;omega) (qp _) (by decide) HG12);refine nC (dk c (at12) mild _ E13.st) E13 (fun _ _ p=>?_) (fun w14 at14 k14 f14 l14 t14 n14 ka14 kn14 kc14 HG14 HL14 E14=>?_)
    ·go_wp2_with fail;exact⟨rfl,.inr p⟩
    go_wp2_with (refine aB E14 (by simp) (by simp) (by decide) rfl rfl ?_;intro v15 w15 E15);refine Z ?_;go_wp2_with fail;have I14:=Z (IP.path I12 (by have:=E15.st.lt;omega) HG14);refine nC (ak c _ (at14) mild _ E15.st) E15 (fun _ _ p=>?_) (fun w16 at16 k16 f16 l16 t16 n16 ka16 kn16 kc16 HG16 HL16 E16=>?_)
    ·go_wp2_with fail;exact⟨rfl,.inr p⟩
    go_wp2_with (refine aB E16 (by simp) (by simp) (by decide) rfl rfl ?_;intro v17 w17 E17);refine Z ?_;go_wp2_with fail;obtain⟨g18,kc18,hv,-,-,-⟩:=E17.k1.big (by simp);subst hv;refine kC (node_any w.heap.size 24 _ _ _ E17.k1 (by simp) (by simp)) E17 (fun w18 E18=>?_);go_wp2_with (refine aw E18.z1 rfl rfl rfl ?_);refine qh (aN rfl (setRow_heap _ _ _ _ _ _ E18.z1) rfl) rfl ?_;exact .inl ⟨at16,_,_,_,_,_,_,_,_,rfl,(E18.fin qr _).1,(E18.fin qr _).2,by have:=HL2.out;have:=I14.le;have:=HL16.out;omega,fun i hi e h=>IP.wrap (by simp) h (by have:=E18.st.lt;omega) HG2.out I14.inr HG16.out⟩
   ·go_wp2_with fail;refine(ap c (at2) mild _ E11.st).mono ?_;rintro e wq ⟨ch,rfl,hS,F⟩;go_wp2_with fail;exact⟨rfl,.inr (E11.pan ⟨ch,rfl,hS,F⟩)⟩
  ·go_wp2_with fail;refine(ap c (at2) mild _ E10.st).mono ?_;rintro e wq ⟨ch,rfl,hS,F⟩;go_wp2_with fail;exact⟨rfl,.inr (E10.pan ⟨ch,rfl,hS,F⟩)⟩
end Go.Proofs.YtnclklfhjbkjhaaGreatDoor
namespace Go.Proofs.YtnclklfhjbkjhaaGreatDoor
open Tryz
open Go.RowKit
theorem my(c:PC)(b:Bool)(at_:Nat)(mild:Bool)(w:World)(h:PSt c at_ mild w):
  Calls prog 117 #[.pointer (some ⟨c.bp,0,none⟩),.bool b] w (NPost c at_ mild w (kS c at_)):=by
 cases b
 ·exact nS c at_ mild w h
 ·exact p6 c at_ mild w h
theorem jP(c:PC)(at_:Nat)(mild:Bool)(w:World)(h:PSt c at_ mild w)(b1 b2:Nat)(b:Bool)(q1:w.cell? ⟨b1,0,none⟩=some (.pointer (some ⟨c.bp,0,none⟩)))(q2:w.cell? ⟨b2,0,none⟩=some (.bool b)):
  Calls prog 120 #[.pointer (some ⟨b1,0,none⟩),.pointer (some ⟨b2,0,none⟩)] w (NPost c at_ mild w (kS c at_)):=by
 have E0:=Z (Env.start h);clear h;have L1:=ax q1;have L2:=ax q2;go_enter func120,ntmps120;go_wp2_with fail;have E1:=Z (E0.allocZ);clear q1 q2 L1 L2;refine nC (my c b (at_) mild _ E1.st) E1 (fun _ _ p=>?_) (fun w2 at2 k2 f2 l2 t2 n2 ka2 kn2 kc2 HG2 HL2 E2=>?_)
 ·go_wp2_with fail;exact⟨rfl,.inr p⟩
 go_wp2_with (refine aw E2.z1 rfl rfl rfl ?_);exact aS E2 HL2 HG2 rfl rfl rfl
theorem ej(c:PC)(b:Bool)(at_:Nat)(mild:Bool)(wo:World)(h:PSt c at_ mild wo):
  Calls prog 85 #[.pointer (some ⟨c.bp,0,none⟩),.bool b] wo (NPost c at_ mild wo (pR c at_)):=by
 have hfr:Keep wo ((wo.alloc (.cells #[.pointer (some ⟨c.bp,0,none⟩)] 49)).alloc (.cells #[.bool b] 4)):=((Fr.refl wo).alloc _).alloc _;refine Calls.mono (?_ :Calls prog 85 _ wo (NPost c at_ mild ((wo.alloc (.cells #[.pointer (some ⟨c.bp,0,none⟩)] 49)).alloc (.cells #[.bool b] 4)) (pR c at_))) (fun e w' hh=>hh.fr hfr.up);have E0:=Z (Env.start (h.keep hfr));have hs:wo.heap.size+1+1=((wo.alloc (.cells #[.pointer (some ⟨c.bp,0,none⟩)] 49)).alloc (.cells #[.bool b] 4)).heap.size:=by simp
 have Q1:((wo.alloc (.cells #[.pointer (some ⟨c.bp,0,none⟩)] 49)).alloc (.cells #[.bool b] 4)).cell? ⟨wo.heap.size,0,none⟩=some (.pointer (some ⟨c.bp,0,none⟩)):=by
  have:=aD (o:= .cells #[.bool b] 4) (ab (ql wo (.cells #[.pointer (some ⟨c.bp,0,none⟩)] 49)) 0);exact this
 have Q1:=Z Q1;have N1:=Z (show wo.heap.size≠c.bp from by have:=h.bp;omega);have hs1:wo.heap.size< ((wo.alloc (.cells #[.pointer (some ⟨c.bp,0,none⟩)] 49)).alloc (.cells #[.bool b] 4)).heap.size:=by simp only[World.size_alloc];omega
 have HB1:=Z hs1;clear hs1;have Q2:((wo.alloc (.cells #[.pointer (some ⟨c.bp,0,none⟩)] 49)).alloc (.cells #[.bool b] 4)).cell? ⟨wo.heap.size+1,0,none⟩=some (.bool b):=by
  have:=ab (ql (wo.alloc (.cells #[.pointer (some ⟨c.bp,0,none⟩)] 49)) (.cells #[.bool b] 4)) 0;simp only[World.size_alloc] at this;exact this
 have Q2:=Z Q2;have N2:=Z (show wo.heap.size+1≠c.bp from by have:=h.bp;omega);have hs2:wo.heap.size+1< ((wo.alloc (.cells #[.pointer (some ⟨c.bp,0,none⟩)] 49)).alloc (.cells #[.bool b] 4)).heap.size:=by simp only[World.size_alloc];omega
 have HB2:=Z hs2;clear hs2;have HS:=Z hs;clear h hfr hs;go_enter func85,ntmps85;go_wp2_with fail;have hs:=HS.out;rw[hs];clear hs;generalize((wo.alloc (.cells #[.pointer (some ⟨c.bp,0,none⟩)] 49)).alloc (.cells #[.bool b] 4))=w at*
 generalize wo.heap.size=b1 at*
 clear HS;have E1:=Z (E0.allocZ);refine nC (aY c _ (at_) mild _ E1.st) E1 (fun _ _ p=>?_) (fun w2 at2 k2 f2 l2 t2 n2 ka2 kn2 kc2 HG2 HL2 E2=>?_)
 ·go_wp2_with fail;exact⟨rfl,.inr p⟩
 have q0:=Fr.cell E2.fr N1 Q1.out;have q1:=Fr.cell E2.fr N2 Q2.out;go_wp2_with (refine bs1 rfl ?_;refine Hid.out ?_);refine Z ?_;have E3:=Z (E2.addNew [Nd.mk k2 f2 l2 t2 n2 ka2 kn2 kc2] #[.int .i64 k2,.int .i64 f2,.int .i64 l2,.string t2,.int .u64 n2,.slice ka2 kn2 kc2] rfl (by simp));go_wp2_with fail;have I2:=Z (IP.word (IP.nil (e:=true)) (by have:=E3.st.lt;omega) (qp _) (by decide) HG2);refine aG (fun x0=>Hid (Env c at2 mild w [(w.heap.size,#[.int .i64 0,.int .i64 0,.int .i64 0,.string ⟨#[]⟩,.int .u64 0,.slice none 0 0])] [(.slice (some ⟨w2.heap.size,0,none⟩) 1 1,[Nd.mk k2 f2 l2 t2 n2 ka2 kn2 kc2])] x0)) E3 ?_;intro x0 X0;clear q0 q1;have q0:=Fr.cell X0.fr N1 Q1.out;have q1:=Fr.cell X0.fr N2 Q2.out;obtain⟨hb,hbt,hat,hsm,c0,c1,-,-,-,-,-,d0,-,-,-,-⟩:=X0.st.facts;by_cases k4:(tk c.ts at2).kind=4
 ·have e4:((tk c.ts at2).kind==4)=true:=by simp[k4]
  have K4:=Z k4;clear k4;go_quiet (fail);clear c0 c1 d0 hb hbt;have KQ:Keep x0 (x0.drewN nq):=(Fr.refl x0).drewN nq;have E4:=Z (X0.keep KQ);clear KQ;clear q0 q1;have q0:=Fr.cell E4.fr N1 Q1.out;have q1:=Fr.cell E4.fr N2 Q2.out;go_wp2_with fail;refine(dW c 49 #[.pointer (some ⟨c.bp,0,none⟩)] #[] w.heap.size _ [Nd.mk k2 f2 l2 t2 n2 ka2 kn2 kc2] at2 mild _ (SetR c.ts) (fun _=>True) (fun _ _ _ _=>trivial) trivial (fun _ _=>by kernel_rfl) (fun a w1 ha hs _=>(fV c a mild w1 hs).mono fun e w' hh=>hh.imp (fun⟨at',k,f,l,t,n,ka,kn,kc,h1,h2,h3,h4,h5⟩=>⟨at',k,f,l,t,n,ka,kn,kc,h1,h2,h3,h4,(SSeg.out h5).1.set⟩) id) E4.st E4.k1 E4.bp0 E4.bt0 E4.fr.size (by have:=HL2.out;simp;omega)).mono ?_;rintro e w5 (⟨fS,v5,l5,rfl,hP,hO,hN,F,hS,hlt,hlen,hG⟩|⟨ch,rfl,hS,F⟩);rotate_left
  ·go_wp2_with fail;exact⟨rfl,.inr (E4.lpan hS F)⟩
  have HG5:=Z hG;have HL5:=Z hlt;have HM5:=Z hlen;have E5:=Z (E4.lst hP hO F hS);clear hP hO hN F hS hlt hlen hG;clear q0 q1;have q0:=Fr.cell E5.fr N1 Q1.out;have q1:=Fr.cell E5.fr N2 Q2.out;go_wp2_with fail;refine nC (ak c _ (fS) mild _ E5.st) E5 (fun _ _ p=>?_) (fun w6 at6 k6 f6 l6 t6 n6 ka6 kn6 kc6 HG6 HL6 E6=>?_)
  ·go_wp2_with fail;exact⟨rfl,.inr p⟩
  clear q0 q1;have q0:=Fr.cell E6.fr N1 Q1.out;have q1:=Fr.cell E6.fr N2 Q2.out;go_wp2_with (refine aB E6 (E5.sm HM5.out) (by simp) (by decide) rfl rfl ?_;intro v7 w7 E7);refine Z ?_;go_wp2_with fail;obtain⟨g8,kc8,hv,-,-,-⟩:=E7.k1.big (by simp);subst hv;refine kC (node_any w.heap.size 21 _ _ _ E7.k1 (by simp) (E7.sm (by have:=HM5.out;have:=HL6.out;simp at*;omega))) E7 (fun w8 E8=>?_);clear q0 q1;go_wp2_with (refine aw E8.z1 rfl rfl rfl ?_);refine qh (aN rfl (setRow_heap _ _ _ _ _ _ E8.z1) rfl) rfl ?_;exact .inl ⟨at6,_,_,_,_,_,_,_,_,rfl,(E8.fin qr _).1,(E8.fin qr _).2,by have:=HL2.out;have:=HL5.out;have:=HL6.out;omega,(IP.semi (I2.ext (e':=false) (fm (fun _ _ _ h=>h) HG5 (by have:=E8.st.lt;have:=HL6.out;omega)).1 HL5 (.inl rfl) (fun h=>by cases h)) (by have:=E8.st.lt;omega) HG6).el (by have:=HL2.out;have:=HL5.out;have:=HL6.out;omega)⟩
 ·have e4:((tk c.ts at2).kind==4)=false:=by simp[k4]
  have K4:=Z k4;clear k4;by_cases k1:(tk c.ts at2).kind=1
  ·have e1:((tk c.ts at2).kind==1)=true:=by simp[k1]
   have K1:=Z k1;clear k1;go_quiet (fail);clear c0 c1 d0 hb hbt;have KQ:Keep x0 (x0.drewN nq):=(Fr.refl x0).drewN nq;have E9:=Z (X0.keep KQ);clear KQ;clear q0 q1;have q0:=Fr.cell E9.fr N1 Q1.out;have q1:=Fr.cell E9.fr N2 Q2.out;go_wp2_with fail;refine(dW c 79 #[.pointer (some ⟨c.bp,0,none⟩)] #[] w.heap.size _ [Nd.mk k2 f2 l2 t2 n2 ka2 kn2 kc2] at2 mild _ (fun i j=>j=i+1∧(tk c.ts i).kind=1) (fun _=>True) (fun _ _ _ _=>trivial) trivial (fun _ _=>by kernel_rfl) (fun a w1 ha hs _=>(a_ c a mild w1 hs).mono fun e w' hh=>hh.imp (fun⟨at',k,f,l,t,n,ka,kn,kc,h1,h2,h3,h4,h5⟩=>⟨at',k,f,l,t,n,ka,kn,kc,h1,h2,h3,h4,h5.1,h5.2.1⟩) id) E9.st E9.k1 E9.bp0 E9.bt0 E9.fr.size (by have:=HL2.out;simp;omega)).mono ?_;rintro e w10 (⟨at10,v10,l10,rfl,hP,hO,hN,F,hS,hlt,hlen,hG⟩|⟨ch,rfl,hS,F⟩);rotate_left
   ·go_wp2_with fail;exact⟨rfl,.inr (E9.lpan hS F)⟩
   have HG10:=Z hG;have HL10:=Z hlt;have HM10:=Z hlen;have E10:=Z (E9.lst hP hO F hS);clear hP hO hN F hS hlt hlen hG;clear q0 q1;have q0:=Fr.cell E10.fr N1 Q1.out;have q1:=Fr.cell E10.fr N2 Q2.out;go_wp2_with fail;refine nC (ak c _ (at10) mild _ E10.st) E10 (fun _ _ p=>?_) (fun w11 at11 k11 f11 l11 t11 n11 ka11 kn11 kc11 HG11 HL11 E11=>?_)
   ·go_wp2_with fail;exact⟨rfl,.inr p⟩
   clear q0 q1;have q0:=Fr.cell E11.fr N1 Q1.out;have q1:=Fr.cell E11.fr N2 Q2.out;go_wp2_with (refine aB E11 (E10.sm HM10.out) (by simp) (by decide) rfl rfl ?_;intro v12 w12 E12);refine Z ?_;go_wp2_with fail;obtain⟨g13,kc13,hv,-,-,-⟩:=E12.k1.big (by simp);subst hv;refine kC (node_any w.heap.size 21 _ _ _ E12.k1 (by simp) (E12.sm (by have:=HM10.out;have:=HL11.out;simp at*;omega))) E12 (fun w13 E13=>?_);clear q0 q1;go_wp2_with (refine aw E13.z1 rfl rfl rfl ?_);refine qh (aN rfl (setRow_heap _ _ _ _ _ _ E13.z1) rfl) rfl ?_;exact .inl ⟨at11,_,_,_,_,_,_,_,_,rfl,(E13.fin qr _).1,(E13.fin qr _).2,by have:=HL2.out;have:=HL10.out;have:=HL11.out;omega,(IP.semi (I2.ext (e':=false) (fm (fun i j hj h=>by rw[h.1];exact(Out.plain (.inl h.2)).set) HG10.out (by have:=E13.st.lt;have:=HL11.out;omega)).1 HL10.out (.inl rfl) (fun h=>by cases h)) (by have:=E13.st.lt;omega) HG11.out).el (by have:=HL2.out;have:=HL10.out;have:=HL11.out;omega)⟩
  ·have e1:((tk c.ts at2).kind==1)=false:=by simp[k1]
   have K1:=Z k1;clear k1;go_quiet (fail);clear c0 c1 d0 hb hbt;have KQ:Keep x0 (x0.drewN nq):=(Fr.refl x0).drewN nq;have E14:=Z (X0.keep KQ);clear KQ;clear q0 q1;have q0:=Fr.cell E14.fr N1 Q1.out;have q1:=Fr.cell E14.fr N2 Q2.out;go_wp2_with fail;have hin:(fun w':World=>w'.cell? ⟨b1,0,none⟩=some (.pointer (some ⟨c.bp,0,none⟩))∧w'.cell? ⟨b1+1,0,none⟩=some (.bool b)) _:=⟨q0,q1⟩;have Hin:=Z hin;clear hin;have HK:=Z (fun g (hg:Value.ownBlock _=some g)=>(E14.k1.lt hg).1);refine(dW c 120 #[] #[.pointer (some ⟨b1,0,none⟩),.pointer (some ⟨b1+1,0,none⟩)] w.heap.size _ [Nd.mk k2 f2 l2 t2 n2 ka2 kn2 kc2] at2 mild _ (SetR c.ts) (fun w':World=>w'.cell? ⟨b1,0,none⟩=some (.pointer (some ⟨c.bp,0,none⟩))∧w'.cell? ⟨b1+1,0,none⟩=some (.bool b)) (fun _ _ hi f=>⟨cY hi.1 HB1.out N1.out HK.out E14.fr.size f,cY hi.2 HB2.out N2.out HK.out E14.fr.size f⟩) Hin.out (fun _ _=>by kernel_rfl) (fun a w1 ha hs hi=>(jP c a mild w1 hs b1 (b1+1) b hi.1 hi.2).mono fun e w' hh=>hh.imp (fun⟨at',k,f,l,t,n,ka,kn,kc,h1,h2,h3,h4,h5⟩=>⟨at',k,f,l,t,n,ka,kn,kc,h1,h2,h3,h4,Out.set h5⟩) id) E14.st E14.k1 E14.bp0 E14.bt0 E14.fr.size (by have:=HL2.out;simp;omega)).mono ?_;rintro e w15 (⟨at15,v15,l15,rfl,hP,hO,hN,F,hS,hlt,hlen,hG⟩|⟨ch,rfl,hS,F⟩);rotate_left
   ·go_wp2_with fail;exact⟨rfl,.inr (E14.lpan hS F)⟩
   have HG15:=Z hG;have HL15:=Z hlt;have HM15:=Z hlen;have E15:=Z (E14.lst hP hO F hS);clear hP hO hN F hS hlt hlen hG;clear q0 q1;have q0:=Fr.cell E15.fr N1 Q1.out;have q1:=Fr.cell E15.fr N2 Q2.out;go_wp2_with fail;refine nC (ak c _ (at15) mild _ E15.st) E15 (fun _ _ p=>?_) (fun w16 at16 k16 f16 l16 t16 n16 ka16 kn16 kc16 HG16 HL16 E16=>?_)
   ·go_wp2_with fail;exact⟨rfl,.inr p⟩
   clear q0 q1;have q0:=Fr.cell E16.fr N1 Q1.out;have q1:=Fr.cell E16.fr N2 Q2.out;go_wp2_with (refine aB E16 (E15.sm HM15.out) (by simp) (by decide) rfl rfl ?_;intro v17 w17 E17);refine Z ?_;go_wp2_with fail;obtain⟨g18,kc18,hv,-,-,-⟩:=E17.k1.big (by simp);subst hv;refine kC (node_any w.heap.size 21 _ _ _ E17.k1 (by simp) (E17.sm (by have:=HM15.out;have:=HL16.out;simp at*;omega))) E17 (fun w18 E18=>?_);clear q0 q1;go_wp2_with (refine aw E18.z1 rfl rfl rfl ?_);refine qh (aN rfl (setRow_heap _ _ _ _ _ _ E18.z1) rfl) rfl ?_;exact .inl ⟨at16,_,_,_,_,_,_,_,_,rfl,(E18.fin qr _).1,(E18.fin qr _).2,by have:=HL2.out;have:=HL15.out;have:=HL16.out;omega,(IP.semi (I2.ext (e':=false) (fm (fun _ _ _ h=>h) HG15 (by have:=E18.st.lt;have:=HL16.out;omega)).1 HL15 (.inl rfl) (fun h=>by cases h)) (by have:=E18.st.lt;omega) HG16).el (by have:=HL2.out;have:=HL15.out;have:=HL16.out;omega)⟩
end Go.Proofs.YtnclklfhjbkjhaaGreatDoor
