/- Part of the proof: C8 P2. -/
import Derived.Test.YtnclklfhjbkjhaaGreatDoorAj
set_option maxRecDepth 1000000
set_option maxHeartbeats 40000000
set_option linter.unusedSimpArgs false
namespace Go.Proofs.YtnclklfhjbkjhaaGreatDoor
open Tryz
open Go.RowKit
def fj:List UInt8:=[112,117,98,108,105,99]
def kh:List UInt8:=[119,101,97,107]
inductive TopD where
 |other
 |pkg (t:List UInt8)
 |imp (p:List UInt8) (pub weak:Bool)
def TopT(c:PC)(i j:Nat):TopD→Prop
 | .other=>Dcl c.ts i j
 | .pkg t=>aH (tk c.ts i) {data:=#[112,97,99,107,97,103,101]}=true∧∃m,PSeg c.ts (i+1) m t∧aH (tk c.ts m) ⟨#[59]⟩=true∧j=m+1
 | .imp p pub weak=>aH (tk c.ts i) {data:=#[105,109,112,111,114,116]}=true∧∃i1 m,((i1=i+1∧pub=false∧weak=false)∨(aH (tk c.ts (i+1)) {data:=#[112,117,98,108,105,99]}=true∧i1=i+2∧pub=true∧weak=false)∨(aH (tk c.ts (i+1)) {data:=#[119,101,97,107]}=true∧i1=i+2∧pub=false∧weak=true))∧
   SSeg c.ts i1 m p∧aH (tk c.ts m) ⟨#[59]⟩=true∧j=m+1
def TopK(w:World)(B:Nat)(k:Int)(v:Value):TopD→Prop
 | .other=>k≠4∧k≠5
 | .pkg t=>k=4∧∃l x,KOwn B w v l∧l[1]? =some x∧x.text.toList=t
 | .imp p pub weak=>k=5∧∃l x y,KOwn B w v l∧3≤l.length∧l[1]? =some x∧l[l.length-2]? =some y∧y.text.toList=p∧
   pub=(x.kind==31&&x.text.toList==fj)∧weak=(x.kind==31&&x.text.toList==kh)
abbrev zC(c:PC)(B:Nat)(at_:Nat)(at':Nat)(k _ _:Int)(_:ByteArray)(_:Int)(ks:Value)(w':World):Prop:=∃d,TopT c at_ at' d∧TopK w' B k ks d
theorem pF{k:Int}{t:ByteArray}(h:k≠31)(s:List UInt8):false=(k==31&&t.toList==s):=by simp[h]
theorem gx{c:PC}{i at':Nat}{k f l n:Int}{t:ByteArray}{v:Value}{w:World}{s:ByteArray}(h:GL c i at' k f l t n v w 31)(b:aH (tk c.ts i) s=true)(s':List UInt8):(k==31&&t.toList==s')=(s.toList==s'):=by
 rw[h.2.1,h.2.2,jm b,dF b];simp
theorem lS{c:PC}{i i1 i2 m j:Nat}{k f l n:Int}{t:ByteArray}{v:Value}{w:World}{k' f' l' n':Int}{t':ByteArray}{v':Value}{w':World}{p:List UInt8}{pub weak:Bool}(g:G1 c {data:=#[105,109,112,111,114,116]} i i1 k f l t n v w)
  (hm:(i2=i1∧pub=false∧weak=false)∨(aH (tk c.ts i1) {data:=#[112,117,98,108,105,99]}=true∧i2=i1+1∧pub=true∧weak=false)∨(aH (tk c.ts i1) {data:=#[119,101,97,107]}=true∧i2=i1+1∧pub=false∧weak=true))
  (g3:SSeg c.ts i2 m p) (g4:G1 c ⟨#[59]⟩ m j k' f' l' t' n' v' w'):TopT c i j (.imp p pub weak):=by
 obtain⟨rfl,g,-⟩:=g;obtain⟨rfl,g4,-⟩:=g4;exact⟨g,i2,m,hm,g3,g4,rfl⟩
theorem ut{c:PC}{i i1 m j:Nat}{k f l n:Int}{t:ByteArray}{v:Value}{w:World}{k' f' l' n':Int}{t':ByteArray}{v':Value}{w':World}{p:List UInt8}(g:G1 c {data:=#[112,97,99,107,97,103,101]} i i1 k f l t n v w)
  (g3:PSeg c.ts i1 m p) (g4:G1 c ⟨#[59]⟩ m j k' f' l' t' n' v' w'):TopT c i j (.pkg p):=by
 obtain⟨rfl,g,-⟩:=g;obtain⟨rfl,g4,-⟩:=g4;exact⟨g,m,g3,g4,rfl⟩
theorem t_(c:PC)(at_:Nat)(w:World)(h:PSt c at_ false w):
  Calls prog 24 #[.pointer (some ⟨c.bp,0,none⟩)] w (NPost c at_ false w (zC c w.heap.size at_)):=by
 have E0:=Z (Env.start h);clear h;go_enter func24,ntmps24;go_wp2_with fail;have E1:=Z (E0.allocZ);refine bO E1 (fun w2 E2=>?_);cases hK:aH (tk c.ts at_) {data:=#[59]};rotate_left
 ·skip
  go_wp2_with fail;refine nC (kM c (at_) false _ E2.st) E2 (fun _ _ p=>?_) (fun w3 at3 k3 f3 l3 t3 n3 ka3 kn3 kc3 HG3 HL3 E3=>?_)
  ·go_wp2_with fail;exact⟨rfl,.inr p⟩
  go_wp2_with (refine aw E3.z1 rfl rfl rfl ?_);exact aS E3 HL3.out ⟨.other,by rw[show at3=at_+1 from HG3.1];exact Dcl.empty (c.sym (by have:=E3.st.lt;have:=HL3.out;omega) HG3.2.1 (by decide)),by have:=HG3.2.2;subst this;exact⟨by decide,by decide⟩⟩ rfl rfl rfl
 clear hK;go_wp2_with fail;refine bO E2 (fun w3 E3=>?_);cases hK:aH (tk c.ts at_) {data:=#[105,109,112,111,114,116]};rotate_left
 ·skip
  go_wp2_with fail;refine nC (aY c _ (at_) false _ E3.st) E3 (fun _ _ p=>?_) (fun w4 at4 k4 f4 l4 t4 n4 ka4 kn4 kc4 HG4 HL4 E4=>?_)
  ·go_wp2_with fail;exact⟨rfl,.inr p⟩
  go_wp2_with (refine bs1 rfl ?_;refine Hid.out ?_);refine Z ?_;have E5:=Z (E4.addNew [Nd.mk k4 f4 l4 t4 n4 ka4 kn4 kc4] #[.int .i64 k4,.int .i64 f4,.int .i64 l4,.string t4,.int .u64 n4,.slice ka4 kn4 kc4] rfl (by simp));go_wp2_with fail;refine bO E5 (fun w6 E6=>?_);cases h6:aH (tk c.ts (at4)) {data:=#[112,117,98,108,105,99]}
  ·have H6:=Z h6;clear h6;go_wp2_with fail;refine bO E6 (fun w7 E7=>?_);cases h7:aH (tk c.ts (at4)) {data:=#[119,101,97,107]}
   ·have H7:=Z h7;clear h7;go_wp2_with fail;refine nC (fh c (at4) false _ E7.st) E7 (fun _ _ p=>?_) (fun w8 at8 k8 f8 l8 t8 n8 ka8 kn8 kc8 HG8 HL8 E8=>?_)
    ·go_wp2_with fail;exact⟨rfl,.inr p⟩
    go_wp2_with (refine aB E8 (by simp) (by simp) (by decide) rfl rfl ?_;intro v9 w9 E9);refine Z ?_;go_wp2_with fail;refine nC (ak c _ (at8) false _ E9.st) E9 (fun _ _ p=>?_) (fun w10 at10 k10 f10 l10 t10 n10 ka10 kn10 kc10 HG10 HL10 E10=>?_)
    ·go_wp2_with fail;exact⟨rfl,.inr p⟩
    go_wp2_with (refine aB E10 (by simp) (by simp) (by decide) rfl rfl ?_;intro v11 w11 E11);refine Z ?_;go_wp2_with fail;obtain⟨g12,kc12,hv,-,-,-⟩:=E11.k1.big (by simp);subst hv;refine kC (node_any w.heap.size 5 _ _ _ E11.k1 (by simp) (by simp)) E11 (fun w12 E12=>?_);have hT:=lS HG4 (.inl ⟨rfl,rfl,rfl⟩) HG8.1 HG10.out;go_wp2_with (refine aw E12.z1 rfl rfl rfl ?_);refine qh (aN rfl (setRow_heap _ _ _ _ _ _ E12.z1) rfl) rfl ?_;exact .inl ⟨at10,_,_,_,_,_,_,_,_,rfl,(E12.fin qr _).1,(E12.fin qr _).2,by have:=HL4.out;have:=HL8.out;have:=HL10.out;omega,⟨_,hT,rfl,_,Nd.mk k8 f8 l8 t8 n8 ka8 kn8 kc8,Nd.mk k8 f8 l8 t8 n8 ka8 kn8 kc8,E12.kset (.head _) _,by simp,by simp,by simp,rfl,pF HG8.2 _,pF HG8.2 _⟩⟩
   ·have H7:=Z h7;clear h7;go_wp2_with fail;refine nC (bm c 31 (at4) false _ E7.st (bH H7)) E7 (fun _ _ p=>?_) (fun w13 at13 k13 f13 l13 t13 n13 ka13 kn13 kc13 HG13 HL13 E13=>?_)
    ·go_wp2_with fail;exact⟨rfl,.inr p⟩
    go_wp2_with (refine aB E13 (by simp) (by simp) (by decide) rfl rfl ?_;intro v14 w14 E14);refine Z ?_;go_wp2_with fail;refine nC (fh c (at13) false _ E14.st) E14 (fun _ _ p=>?_) (fun w15 at15 k15 f15 l15 t15 n15 ka15 kn15 kc15 HG15 HL15 E15=>?_)
    ·go_wp2_with fail;exact⟨rfl,.inr p⟩
    go_wp2_with (refine aB E15 (by simp) (by simp) (by decide) rfl rfl ?_;intro v16 w16 E16);refine Z ?_;go_wp2_with fail;refine nC (ak c _ (at15) false _ E16.st) E16 (fun _ _ p=>?_) (fun w17 at17 k17 f17 l17 t17 n17 ka17 kn17 kc17 HG17 HL17 E17=>?_)
    ·go_wp2_with fail;exact⟨rfl,.inr p⟩
    go_wp2_with (refine aB E17 (by simp) (by simp) (by decide) rfl rfl ?_;intro v18 w18 E18);refine Z ?_;go_wp2_with fail;obtain⟨g19,kc19,hv,-,-,-⟩:=E18.k1.big (by simp);subst hv;refine kC (node_any w.heap.size 5 _ _ _ E18.k1 (by simp) (by simp)) E18 (fun w19 E19=>?_);have hT:=lS HG4 (.inr (.inr ⟨H7,HG13.1,rfl,rfl⟩)) HG15.1 HG17.out;go_wp2_with (refine aw E19.z1 rfl rfl rfl ?_);refine qh (aN rfl (setRow_heap _ _ _ _ _ _ E19.z1) rfl) rfl ?_;exact .inl ⟨at17,_,_,_,_,_,_,_,_,rfl,(E19.fin qr _).1,(E19.fin qr _).2,by have:=HL4.out;have:=HL13.out;have:=HL15.out;have:=HL17.out;omega,⟨_,hT,rfl,_,Nd.mk k13 f13 l13 t13 n13 ka13 kn13 kc13,Nd.mk k15 f15 l15 t15 n15 ka15 kn15 kc15,E19.kset (.head _) _,by simp,by simp,by simp,rfl,((gx HG13.out H7.out fj).trans (by rw[qp];decide)).symm,((gx HG13.out H7.out kh).trans (by rw[qp];decide)).symm⟩⟩
  ·have H6:=Z h6;clear h6;go_wp2_with fail;refine nC (bm c 31 (at4) false _ E6.st (bH H6)) E6 (fun _ _ p=>?_) (fun w20 at20 k20 f20 l20 t20 n20 ka20 kn20 kc20 HG20 HL20 E20=>?_)
   ·go_wp2_with fail;exact⟨rfl,.inr p⟩
   go_wp2_with (refine aB E20 (by simp) (by simp) (by decide) rfl rfl ?_;intro v21 w21 E21);refine Z ?_;go_wp2_with fail;refine nC (fh c (at20) false _ E21.st) E21 (fun _ _ p=>?_) (fun w22 at22 k22 f22 l22 t22 n22 ka22 kn22 kc22 HG22 HL22 E22=>?_)
   ·go_wp2_with fail;exact⟨rfl,.inr p⟩
   go_wp2_with (refine aB E22 (by simp) (by simp) (by decide) rfl rfl ?_;intro v23 w23 E23);refine Z ?_;go_wp2_with fail;refine nC (ak c _ (at22) false _ E23.st) E23 (fun _ _ p=>?_) (fun w24 at24 k24 f24 l24 t24 n24 ka24 kn24 kc24 HG24 HL24 E24=>?_)
   ·go_wp2_with fail;exact⟨rfl,.inr p⟩
   go_wp2_with (refine aB E24 (by simp) (by simp) (by decide) rfl rfl ?_;intro v25 w25 E25);refine Z ?_;go_wp2_with fail;obtain⟨g26,kc26,hv,-,-,-⟩:=E25.k1.big (by simp);subst hv;refine kC (node_any w.heap.size 5 _ _ _ E25.k1 (by simp) (by simp)) E25 (fun w26 E26=>?_);have hT:=lS HG4 (.inr (.inl ⟨H6,HG20.1,rfl,rfl⟩)) HG22.1 HG24.out;go_wp2_with (refine aw E26.z1 rfl rfl rfl ?_);refine qh (aN rfl (setRow_heap _ _ _ _ _ _ E26.z1) rfl) rfl ?_;exact .inl ⟨at24,_,_,_,_,_,_,_,_,rfl,(E26.fin qr _).1,(E26.fin qr _).2,by have:=HL4.out;have:=HL20.out;have:=HL22.out;have:=HL24.out;omega,⟨_,hT,rfl,_,Nd.mk k20 f20 l20 t20 n20 ka20 kn20 kc20,Nd.mk k22 f22 l22 t22 n22 ka22 kn22 kc22,E26.kset (.head _) _,by simp,by simp,by simp,rfl,((gx HG20.out H6.out fj).trans (by rw[qp];decide)).symm,((gx HG20.out H6.out kh).trans (by rw[qp];decide)).symm⟩⟩
 clear hK;go_wp2_with fail;refine bO E3 (fun w4 E4=>?_);cases hK:aH (tk c.ts at_) {data:=#[112,97,99,107,97,103,101]};rotate_left
 ·skip
  go_wp2_with fail;refine nC (aY c _ (at_) false _ E4.st) E4 (fun _ _ p=>?_) (fun w21 at21 k21 f21 l21 t21 n21 ka21 kn21 kc21 HG21 HL21 y=>?_)
  ·go_wp2_with fail;exact⟨rfl,.inr p⟩
  have LT21:=Z (af y.out.z1);have E21:=Z (y.out.alloc #[.int .i64 k21,.int .i64 f21,.int .i64 l21,.string t21,.int .u64 n21,.slice ka21 kn21 kc21]);clear y;go_wp2_with fail;refine(fN c (at21) false _ E21.st).mono ?_;rintro e w22 (⟨at22,k22,f22,l22,t22,n22,ka22,kn22,kc22,rfl,hP,F,hlt,hG⟩|⟨ch,rfl,hS,F⟩);rotate_left
  ·go_wp2_with fail;exact⟨rfl,.inr (E21.pan ⟨ch,rfl,hS,F⟩)⟩
  have HG22:=Z hG;have HL22:=Z hlt;have LT22:=Z (af (E21.call hP F).z2);have E22:=Z ((E21.call hP F).alloc #[.int .i64 k22,.int .i64 f22,.int .i64 l22,.string t22,.int .u64 n22,.slice ka22 kn22 kc22]);clear hP F hG hlt;go_wp2_with fail;refine aG (fun x0=>Hid (Env c (at22) false w [(w22.heap.size,#[.int .i64 k22,.int .i64 f22,.int .i64 l22,.string t22,.int .u64 n22,.slice ka22 kn22 kc22]),(w21.heap.size,#[.int .i64 k21,.int .i64 f21,.int .i64 l21,.string t21,.int .u64 n21,.slice ka21 kn21 kc21]),(w.heap.size,#[.int .i64 0,.int .i64 0,.int .i64 0,.string ⟨#[]⟩,.int .u64 0,.slice none 0 0])] [] x0)) E22 ?_;intro x0 X0;generalize w22.heap.size=b22 at*
  generalize w21.heap.size=b21 at*
  have cb22:∀ (w':World) (o:Nat),w'.heap[b22]? =some (.cells #[.int .i64 k22,.int .i64 f22,.int .i64 l22,.string t22,.int .u64 n22,.slice ka22 kn22 kc22] 26 (0,0))→w'.cell? ⟨b22,o,none⟩=(#[.int .i64 k22,.int .i64 f22,.int .i64 l22,.string t22,.int .u64 n22,.slice ka22 kn22 kc22]:Array Value)[o]? :=fun _ o z=>ab z o
  have cb21:∀ (w':World) (o:Nat),w'.heap[b21]? =some (.cells #[.int .i64 k21,.int .i64 f21,.int .i64 l21,.string t21,.int .u64 n21,.slice ka21 kn21 kc21] 26 (0,0))→w'.cell? ⟨b21,o,none⟩=(#[.int .i64 k21,.int .i64 f21,.int .i64 l21,.string t21,.int .u64 n21,.slice ka21 kn21 kc21]:Array Value)[o]? :=fun _ o z=>ab z o
  have N22:b22≠c.bp:=by have:=(X0).lt1.1;have:=X0.bp0;omega
  have D22:b22≠w.heap.size:=by have:=LT22.out;omega
  have Z22:=Keep.blk ((Fr.refl x0).drew) X0.z1;have N21:b21≠c.bp:=by have:=(X0.dropB).lt1.1;have:=X0.bp0;omega
  have D21:b21≠w.heap.size:=by have:=LT21.out;omega
  have Z21:=Keep.blk ((Fr.refl x0).drew) X0.z2;have N0:w.heap.size≠c.bp:=by have:=X0.bp0;omega
  have Z0:=Keep.blk ((Fr.refl x0).drew) X0.z3;have X1:=Z (X0.keep ((Fr.refl x0).drew));go_region_held2 (fun w'=>w'.heap[b22]? =some (.cells #[.int .i64 k22,.int .i64 f22,.int .i64 l22,.string t22,.int .u64 n22,.slice ka22 kn22 kc22] 26 (0,0))∧w'.heap[b21]? =some (.cells #[.int .i64 k21,.int .i64 f21,.int .i64 l21,.string t21,.int .u64 n21,.slice ka21 kn21 kc21] 26 (0,0)))
   (first|with_reducible exact⟨Z22,Z21⟩|with_reducible exact⟨F5.blk N22 Z22,F5.blk N21 Z21⟩|with_reducible exact⟨Keep.blk ((Fr.refl _).alloc _) (F5.blk N22 Z22),Keep.blk ((Fr.refl _).alloc _) (F5.blk N21 Z21)⟩|with_reducible exact⟨Keep.blk k6 (Keep.blk ((Fr.refl _).alloc _) (F5.blk N22 Z22)),Keep.blk k6 (Keep.blk ((Fr.refl _).alloc _) (F5.blk N21 Z21))⟩|(refine⟨Fr.blk (S:=(· =w.heap.size)) ?_ D22 (Keep.blk k6 (Keep.blk ((Fr.refl _).alloc _) (F5.blk N22 Z22))),Fr.blk (S:=(· =w.heap.size)) ?_ D21 (Keep.blk k6 (Keep.blk ((Fr.refl _).alloc _) (F5.blk N21 Z21)))⟩<;> (repeat(first|(with_reducible exact Fr.refl _)|(with_reducible refine Fr.setIn ?_ _ rfl)))))
   (first|(go_at_call 48;refine(ak c _ (at22) false _ X1.st).mono ?_;rintro e w23 (⟨at23,k23,f23,l23,t23,n23,ka23,kn23,kc23,rfl,hP5,F5,hlt,hG⟩|⟨ch,rfl,hS,F⟩);rotate_left;(exact⟨rfl,.inr (X1.pan ⟨ch,rfl,hS,F⟩)⟩))|(go_at_call 27;refine(node_any w.heap.size 4 _ [Nd.mk k21 f21 l21 t21 n21 ka21 kn21 kc21,Nd.mk k22 f22 l22 t22 n22 ka22 kn22 kc22,Nd.mk k23 f23 l23 t23 n23 ka23 kn23 kc23] _ ((X1.call hP5 F5).addNew _ _ rfl (by simp)).k1 (by simp) (by simp)).mono ?_;rintro e wnd ⟨rfl,k6⟩;obtain⟨r0,r1,r2,r3,r4,r5,g0,g1,g2,g3,g4,g5⟩:=c_ (k6.blk (Keep.blk ((Fr.refl w23).alloc (.cells _ 26)) (F5.blk N0 Z0)))))
  have HG23:=Z hG;have HL23:=Z hlt;have E23:=Z ((((X1.call hP5 F5).addNew [Nd.mk k21 f21 l21 t21 n21 ka21 kn21 kc21,Nd.mk k22 f22 l22 t22 n22 ka22 kn22 kc22,Nd.mk k23 f23 l23 t23 n23 ka23 kn23 kc23] #[.int .i64 k21,.int .i64 f21,.int .i64 l21,.string t21,.int .u64 n21,.slice ka21 kn21 kc21,.int .i64 k22,.int .i64 f22,.int .i64 l22,.string t22,.int .u64 n22,.slice ka22 kn22 kc22,.int .i64 k23,.int .i64 f23,.int .i64 l23,.string t23,.int .u64 n23,.slice ka23 kn23 kc23] rfl (by simp))).keep k6);have Z6:=Z E23.z3;rw[lg Z6.out];clear r0 r1 r2 r3 r4 r5 g0 g1 g2 g3 g4 g5 hG hlt hP5 F5 k6 N0 Z0 cb22 N22 D22 Z22 cb21 N21 D21 Z21;go_wp2_with fail;refine qh (aN rfl (setRow_heap _ _ _ _ _ _ Z6) rfl) rfl ?_;exact .inl ⟨at23,_,_,_,_,_,_,_,_,rfl,(E23.fin qr _).1,(E23.fin qr _).2,by have:=HL21.out;have:=HL22.out;have:=HL23.out;omega,⟨_,ut (p:=t22.toList) HG21.out (by rcases HG22.out with h|h;exact h;exact absurd h.1 (by decide)) HG23.out,rfl,_,Nd.mk k22 f22 l22 t22 n22 ka22 kn22 kc22,E23.kset (.tail _ (.tail _ (.head _))) _,by simp,rfl⟩⟩
 clear hK;go_wp2_with fail;refine bO E4 (fun w5 E5=>?_);cases hK:aH (tk c.ts at_) {data:=#[111,112,116,105,111,110]};rotate_left
 ·skip
  go_wp2_with fail;refine nC (cL c (at_) false _ E5.st) E5 (fun _ _ p=>?_) (fun w6 at6 k6 f6 l6 t6 n6 ka6 kn6 kc6 HG6 HL6 E6=>?_)
  ·go_wp2_with fail;exact⟨rfl,.inr p⟩
  go_wp2_with (refine aw E6.z1 rfl rfl rfl ?_);exact aS E6 HL6 ⟨.other,HG6.1,HG6.2⟩ rfl rfl rfl
 clear hK;go_wp2_with fail;refine bO E5 (fun w6 E6=>?_);cases hK:aH (tk c.ts at_) {data:=#[109,101,115,115,97,103,101]};rotate_left
 ·skip
  go_wp2_with fail;refine nC (ij c (at_) _ E6.st (il c _)) E6 (fun _ _ p=>?_) (fun w7 at7 k7 f7 l7 t7 n7 ka7 kn7 kc7 HG7 HL7 E7=>?_)
  ·go_wp2_with fail;exact⟨rfl,.inr p⟩
  go_wp2_with (refine aw E7.z1 rfl rfl rfl ?_);exact aS E7 HL7 ⟨.other,HG7.1,HG7.2⟩ rfl rfl rfl
 clear hK;go_wp2_with fail;refine bO E6 (fun w7 E7=>?_);cases hK:aH (tk c.ts at_) {data:=#[101,110,117,109]};rotate_left
 ·skip
  go_wp2_with fail;refine nC (nB c (at_) false _ E7.st) E7 (fun _ _ p=>?_) (fun w8 at8 k8 f8 l8 t8 n8 ka8 kn8 kc8 HG8 HL8 E8=>?_)
  ·go_wp2_with fail;exact⟨rfl,.inr p⟩
  go_wp2_with (refine aw E8.z1 rfl rfl rfl ?_);exact aS E8 HL8 ⟨.other,HG8.1,HG8.2⟩ rfl rfl rfl
 clear hK;go_wp2_with fail;refine bO E7 (fun w8 E8=>?_);cases hK:aH (tk c.ts at_) {data:=#[101,120,116,101,110,100]};rotate_left
 ·skip
  go_wp2_with fail;refine nC (js c (at_) _ E8.st (il c _)) E8 (fun _ _ p=>?_) (fun w9 at9 k9 f9 l9 t9 n9 ka9 kn9 kc9 HG9 HL9 E9=>?_)
  ·go_wp2_with fail;exact⟨rfl,.inr p⟩
  go_wp2_with (refine aw E9.z1 rfl rfl rfl ?_);exact aS E9 HL9 ⟨.other,HG9.1,HG9.2⟩ rfl rfl rfl
 clear hK;go_wp2_with fail;refine bO E8 (fun w9 E9=>?_);cases hK:aH (tk c.ts at_) {data:=#[115,101,114,118,105,99,101]};rotate_left
 ·skip
  go_wp2_with fail;refine nC (mB c (at_) false _ E9.st) E9 (fun _ _ p=>?_) (fun w10 at10 k10 f10 l10 t10 n10 ka10 kn10 kc10 HG10 HL10 E10=>?_)
  ·go_wp2_with fail;exact⟨rfl,.inr p⟩
  go_wp2_with (refine aw E10.z1 rfl rfl rfl ?_);exact aS E10 HL10 ⟨.other,HG10.1,HG10.2⟩ rfl rfl rfl
 clear hK;go_wp2_with fail;refine(bh c (at_) false _ E9.st).mono ?_;rintro e wq ⟨ch,rfl,hS,F⟩;go_wp2_with fail;exact⟨rfl,.inr (E9.pan ⟨ch,rfl,hS,F⟩)⟩
end Go.Proofs.YtnclklfhjbkjhaaGreatDoor
namespace Go.Proofs.YtnclklfhjbkjhaaGreatDoor
def pt(t:Tk):Pt:=⟨t.kind,t.raw.toList,t.val.toList⟩
def vK(c:PC)(i:Nat):List Pt:=(c.ts.drop i).map pt
inductive FSeg(c:PC):Nat→Nat→List TopD→Prop where
 |nil {i:Nat}:FSeg c i i []
 |snoc {i j k:Nat} {ds:List TopD} {d:TopD}:FSeg c i j ds→TopT c j k d→FSeg c i k (ds++ [d])
def fe(a:List (List UInt8×Bool×Bool) ×List UInt8)(d:TopD):List (List UInt8×Bool×Bool) ×List UInt8:=
 match d with
 | .other=>a
 | .pkg t=>(a.1,t)
 | .imp p u w=>(a.1++ [(p,u,w)],a.2)
theorem iZ{c:PC}{i:Nat}(h:i<c.ts.length):vK c i=pt (tk c.ts i) ::vK c (i+1):=by
 unfold vK;rw[List.drop_eq_getElem_cons h,List.map_cons];simp[tk,h]
theorem zi{t:Tk}{b:UInt8}(h1:(pt t).k=5)(h2:(pt t).raw=[b]):aH t ⟨#[b]⟩=true:=by
 have e:t.raw.toList=[b]:=h2;have e':t.kind=5:=h1;simp[aH,e,e',qp]
def At(c:PC)(R:List Int)(p:Ps)(s0:Sc)(i:Nat)(s:Sc):Prop:=∃R' p',bT R p s0=bT R' p' s∧LR R' (vK c i)
theorem Same.ne{x:Lx}{t:Pt}(h:Same x t):x.k≠0:=by
 rcases h with⟨-,h,-⟩|⟨-,h⟩|⟨-,h,-⟩|⟨-,c,hc,h,-⟩
 ·omega
 ·omega
 ·omega
 ·rw[h];intro e;subst e;exact absurd hc (by decide)
theorem At.step{c:PC}{R:List Int}{p:Ps}{s0 s:Sc}{i:Nat}(h:At c R p s0 i s)(hi:i+1<c.ts.length)(g:NGa c.ts (i+1)):∃x,Same x (pt (tk c.ts i))∧At c R p s0 (i+1) (bc s x):=by
 obtain⟨R',p',e,hl⟩:=h;have e1:=iZ (c:=c) (i:=i) (by omega);have e2:=iZ (c:=c) (i:=i+1) hi;rcases m8 hl (by
  intro t t' ts' ht ⟨h1,h2,h3⟩;rw[e1,e2] at ht;cases ht;exact g ⟨h1,zi h2 h3⟩) p' with⟨t,ht,-,-⟩|⟨t,ts',x,ht,hx,hs,hl'⟩
 ·rw[e1,e2] at ht;cases ht
 ·rw[e1] at ht;cases ht;exact⟨x,hs,x.rest,x.ps,by rw[e,ei hx hs.ne],hl'⟩
theorem At.fin{c:PC}{R:List Int}{p:Ps}{s0 s:Sc}{i:Nat}(h:At c R p s0 i s)(hi:i+1=c.ts.length):bT R p s0=(s,true):=by
 obtain⟨R',p',e,hl⟩:=h;have e1:=iZ (c:=c) (i:=i) (by omega);have e2:vK c (i+1)=[]:=by unfold vK;rw[List.drop_eq_nil_of_le (by omega)];rfl
 rw[e2] at e1;rcases m8 hl (by intro t t' ts' ht;rw[e1] at ht;cases ht) p' with⟨t,ht,-,hx⟩|⟨t,ts',x,ht,hx,hs,hl'⟩
 ·rw[e,kf hx]
 ·rw[e1] at ht;cases ht;have h6:(tk c.ts i).kind=6:=by have:=c.fin;rwa [show c.ts.length-1=i from by omega] at this
  rcases hs with⟨k,-⟩|⟨k,-⟩|⟨k,-⟩|⟨k,-⟩<;>simp only[pt] at k<;>omega
def zs(l:List UInt8):List Int:=l.map fun b=>(b.toNat:Int)
theorem iD{l:List UInt8}{b:UInt8}:(zs l).head?=some (b.toNat:Int)↔l.head?=some b:=by
 cases l with
 |nil=>simp[zs]
 |cons a l=>simp[zs];exact⟨fun h=>UInt8.toNat_inj.1 (by omega),fun h=>by rw[h]⟩
theorem wE{s:Sc}{x:Lx}{t:Tk}{st st':List UInt8}{ds ds':Bool}(hx:Same x (pt t))(h:ci st ds t=some (st',ds'))(i1:s.imp=none)(i2:s.pkg=none)
  (hs:s.stk=zs st) (hd:s.ds=ds):bc s x={s with stk:=zs st',ds:=ds',pl:=x.pv}:=by
 have e1:bI s x=s:=by unfold bI;rw[i1]
 have e2:bU s x=s:=by unfold bU;rw[i2]
 unfold bc;simp only[e1,e2];subst hd;rcases hx with⟨k,hk,ht⟩|⟨k,hk⟩|⟨k,hk,ht⟩|⟨k,c,hc,hk,hr⟩
 ·have k':t.kind=1:=k;unfold ci at h;rw[if_neg (by omega),if_pos k'] at h;split at h
  ·cases h
  ·rename_i hn;cases h;have e:bQ s x=s:=by
    unfold bQ;rw[if_neg (by omega),if_neg (by omega),if_pos hk];split
    ·rename_i hh;have htx:txt x=t.raw.toList:=by unfold txt;rw[ht];rfl
     have hst:st=[]:=by have:=hs.symm.trans hh.2;simpa[zs] using this
     subst hst;rw[htx];have h1:t.raw.toList≠dC:=fun e=>hn (by rw[e,hh.1];rfl)
     have h2:t.raw.toList≠cT:=fun e=>hn (by rw[e,hh.1];rfl)
     rw[if_neg h1,if_neg h2]
    ·rfl
   rw[e,hk,←hs];rfl
 ·have k':t.kind=2∨t.kind=3:=k;unfold ci at h;rw[if_neg (by omega),if_neg (by omega),if_neg (by omega)] at h;cases h;have e:bQ s x=s:=by unfold bQ;rw[if_neg (by omega),if_neg (by omega),if_neg (by omega)]
  rw[e,hk,←hs];rfl
 ·have k':t.kind=4:=k;unfold ci at h;rw[if_neg (by omega),if_neg (by omega),if_neg (by omega)] at h;cases h;have e:bQ s x=s:=by unfold bQ;rw[if_neg (by omega),if_neg (by omega),if_neg (by omega)]
  rw[e,hk,←hs];rfl
 ·have k':t.kind=5:=k;have hr':t.raw.toList=[b8 c]:=hr;have hc':c=59∨c=44∨c=46∨c=47∨c=58∨c=61∨c=45∨c=40∨c=41∨c=123∨c=125∨c=91∨c=93∨c=60∨c=62:=by
   simpa[gG] using hc
  have z41:=iD (l:=st) (b:=41);have z125:=iD (l:=st) (b:=125);have z93:=iD (l:=st) (b:=93);have z62:=iD (l:=st) (b:=62);have ztl:(zs st).tail=zs st.tail:=by cases st<;>rfl
  unfold ci at h;rw[if_pos k',hr'] at h;clear k hc hr hr' k';rcases hc' with rfl|rfl|rfl|rfl|rfl|rfl|rfl|rfl|rfl|rfl|rfl|rfl|rfl|rfl|rfl<;>simp only[b8] at h<;>
   first
   |(cases h;simp[bQ,hk,hs,dM,zs];done)
   |(change(if _ then _ else _)=_ at h
     split at h
     ·rename_i hh;cases h
      first
      |(have z:=z41.2 hh;simp only[bQ,hk,hs];simp at z;simp[z,ztl];done)
      |(have z:=z125.2 hh;simp only[bQ,hk,hs];simp at z;simp[z,ztl];done)
      |(have z:=z93.2 hh;simp only[bQ,hk,hs];simp at z;simp[z,ztl];done)
      |(have z:=z62.2 hh;simp only[bQ,hk,hs];simp at z;simp[z,ztl];done)
     ·cases h)
theorem vJ{c:PC}{R:List Int}{p:Ps}{s0:Sc}(hg:∀m,0<m→m<c.ts.length→NGa c.ts m):∀ (n i:Nat) (s:Sc) (σ σ':List UInt8×Bool),dJ c.ts i n σ=some σ'→i+n<c.ts.length→At c R p s0 i s→s.imp=none→s.pkg=none→s.stk=zs σ.1→s.ds=σ.2→
  ∃pl,At c R p s0 (i+n) {s with stk:=zs σ'.1,ds:=σ'.2,pl:=pl}
 |0,i,s,σ,σ',h,_,ha,_,_,hs,hd=>by
  simp only[dJ,Option.some.injEq] at h;subst h;refine⟨s.pl,?_⟩;rw[←hs,←hd];exact ha
 |n+1,i,s,σ,σ',h,hi,ha,h1,h2,hs,hd=>by
  simp only[dJ] at h;cases hm:ci σ.1 σ.2 (tk c.ts i) with
  |none=>rw[hm] at h;cases h
  |some τ=>
   rw[hm] at h;simp only[Option.bind_some] at h;obtain⟨x,hx,ha'⟩:=ha.step (by omega) (hg (i+1) (by omega) (by omega));rw[wE (st':=τ.1) (ds':=τ.2) hx hm h1 h2 hs hd] at ha';obtain⟨pl,hf⟩:=vJ hg n (i+1) _ τ σ' h (by omega) ha' h1 h2 rfl rfl;exact⟨pl,by rw[show i+(n+1)=i+1+n from by omega];exact hf⟩
theorem iS{x:Lx}{t:Tk}{b:UInt8}{z:Int}(hx:Same x (pt t))(h:t.kind=5∧t.raw.toList=[b])(hz:∀c∈gG,b8 c=b→c=z):x.k=z:=by
 rcases hx with⟨k,-⟩|⟨k,-⟩|⟨k,-⟩|⟨-,c,hc,hk,hr⟩
 ·have:t.kind=1:=k;omega
 ·have:t.kind=2∨t.kind=3:=k;omega
 ·have:t.kind=4:=k;omega
 ·rw[hk];have e:t.raw.toList=[b8 c]:=hr;rw[h.2] at e;exact hz c hc (by simpa using e.symm)
theorem di{x:Lx}{t:Tk}(hx:Same x (pt t))(h:t.kind=1):x.k=65539∧txt x=t.raw.toList:=by
 rcases hx with⟨-,h1,h2⟩|⟨k,-⟩|⟨k,-⟩|⟨k,-⟩
 ·exact⟨h1,by unfold txt;rw[h2];rfl⟩
 ·have:t.kind=2∨t.kind=3:=k;omega
 ·have:t.kind=4:=k;omega
 ·have:t.kind=5:=k;omega
theorem mC{x:Lx}{t:Tk}(hx:Same x (pt t))(h:t.kind=4):x.k=65537∧txt x=t.val.toList:=by
 rcases hx with⟨k,-⟩|⟨k,-⟩|⟨-,h1,h2⟩|⟨k,-⟩
 ·have:t.kind=1:=k;omega
 ·have:t.kind=2∨t.kind=3:=k;omega
 ·exact⟨h1,by unfold txt;rw[h2];rfl⟩
 ·have:t.kind=5:=k;omega
theorem ys{c:PC}{R:List Int}{p:Ps}{s0 s:Sc}{i m:Nat}{t:List UInt8}(hg:∀m,0<m→m<c.ts.length→NGa c.ts m)(h:SSeg c.ts i m t)(hm:m<c.ts.length)(ha:At c R p s0 i s)(h1:s.imp=some [])(h2:s.pkg=none):
  ∃l pl,l≠[]∧l.flatten=t∧At c R p s0 m {s with imp:=some l,ds:=false,pl:=pl}:=by
 induction h with
 |one hk=>
  obtain⟨x,hx,ha'⟩:=ha.step (by omega) (hg _ (by omega) (by omega));obtain⟨e1,e2⟩:=mC hx hk;refine⟨[txt x],x.pv,by simp,by simp[e2],?_⟩;have e:bc s x={s with imp:=some [txt x],ds:=false,pl:=x.pv}:=by
   simp[bc,bQ,bU,bI,h1,h2,e1]
  rw[←e];exact ha'
 | @more j t _ hk ih=>
  obtain⟨l,pl,l1,l2,ha1⟩:=ih (by omega);obtain⟨x,hx,ha'⟩:=ha1.step (by omega) (hg _ (by omega) (by omega));obtain⟨e1,e2⟩:=mC hx hk;refine⟨l++ [txt x],x.pv,by simp,by simp[e2,l2],?_⟩;have e:bc {s with imp:=some l,ds:=false,pl:=pl} x={s with imp:=some (l++ [txt x]),ds:=false,pl:=x.pv}:=by
   simp[bc,bQ,bU,bI,h2,e1]
  rw[←e];exact ha'
theorem yu{c:PC}{R:List Int}{p:Ps}{s0 s:Sc}{i m:Nat}{t:List UInt8}(hg:∀m,0<m→m<c.ts.length→NGa c.ts m)(h:PSeg c.ts i m t)(hm:m<c.ts.length)(ha:At c R p s0 i s)(h1:s.pkg=some [])(h2:s.imp=none)(hd:s.ds=false):
  ∃l pl,l≠[]∧l.getLast?≠some df∧l.flatten=t∧At c R p s0 m {s with pkg:=some l,ds:=false,pl:=pl}:=by
 have nd:∀ (j:Nat),j<c.ts.length→(tk c.ts j).kind=1→(tk c.ts j).raw.toList≠df:=by
  intro j hj hk e;obtain⟨a,r,h1,h2⟩:=(c.wf j hj).1 hk;rw[e] at h1;cases h1
  revert h2;decide
 induction h with
 |one hk=>
  obtain⟨x,hx,ha'⟩:=ha.step (by omega) (hg _ (by omega) (by omega));obtain⟨e1,e2⟩:=di hx hk;refine⟨[txt x],x.pv,by simp,by simp[e2,nd _ (show _<_ by omega) hk],by simp[e2],?_⟩;have e:bc s x={s with pkg:=some [txt x],ds:=false,pl:=x.pv}:=by
   simp[bc,bQ,bU,bI,h1,h2,e1,hd]
  rw[←e];exact ha'
 | @more j t _ hb hk ih=>
  obtain⟨l,pl,l1,l2,l3,ha1⟩:=ih (by omega);obtain⟨x,hx,ha2⟩:=ha1.step (by omega) (hg _ (by omega) (by omega));have e1:=iS (z:=46) hx (c.sym (by omega) hb (by decide)) (by decide);have e:bc {s with pkg:=some l,ds:=false,pl:=pl} x={s with pkg:=some (l++ [df]),ds:=false,pl:=x.pv}:=by
   simp[bc,bQ,bU,bI,h2,e1,l1,l2]
  rw[e] at ha2;obtain⟨y,hy,ha3⟩:=ha2.step (by omega) (hg _ (by omega) (by omega));obtain⟨e2,e3⟩:=di hy hk;refine⟨l++ [df] ++ [txt y],y.pv,by simp,by simp[e3,nd _ (show _<_ by omega) hk],by simp[e3,l3,df],?_⟩;have e:bc {s with pkg:=some (l++ [df]),ds:=false,pl:=x.pv} y={s with pkg:=some (l++ [df] ++ [txt y]),ds:=false,pl:=y.pv}:=by
   simp[bc,bQ,bU,bI,h2,e2]
  rw[←e];exact ha3
structure Clear(s:Sc):Prop where
 imp:s.imp=none
 pkg:s.pkg=none
 stk:s.stk=[]
 ds:s.ds=true
 errs:s.errs=[]
theorem eV{c:PC}{i:Nat}{l:List UInt8}(hi:i<c.ts.length)(h:aH (tk c.ts i) ⟨l.toArray⟩=true)(hl:l.length≠1):(tk c.ts i).kind=1∧(tk c.ts i).raw.toList=l:=by
 have e:(⟨l.toArray⟩:ByteArray).toList=l:=qp l;obtain⟨h1,h2⟩:=gq (c.wf i hi) (s:=⟨l.toArray⟩) (by rw[e];exact hl) h;exact⟨h1,h2.trans e⟩
theorem uj{c:PC}{R:List Int}{p:Ps}{s0 s:Sc}{i j:Nat}{d:TopD}(hg:∀m,0<m→m<c.ts.length→NGa c.ts m)(h:TopT c i j d)(hij:i<j)(hj:j<c.ts.length)(ha:At c R p s0 i s)(hc:Clear s):
  ∃s',At c R p s0 j s'∧Clear s'∧(s'.imports,s'.name)=fe (s.imports,s.name) d:=by
 cases d with
 |other=>
  obtain⟨pl,h'⟩:=vJ hg (j-i) i s ([],true) ([],true) (Dcl.run (show Dcl c.ts i j from h) [] true) (by omega) ha hc.imp hc.pkg hc.stk hc.ds;rw[show i+(j-i)=j from by omega] at h';exact⟨_,h',⟨hc.imp,hc.pkg,rfl,rfl,hc.errs⟩,rfl⟩
 |pkg t=>
  obtain⟨hb,m,hp,hsem,rfl⟩:=h;have hm:=(hp.out (by omega)).2.2.2;obtain⟨x,hx,ha1⟩:=ha.step (by omega) (hg _ (by omega) (by omega));obtain⟨k1,k2⟩:=eV (l:=cT) (by omega) hb (by decide);obtain⟨e1,e2⟩:=di hx k1;have e:bc s x={s with pkg:=some [],ds:=false,pl:=x.pv}:=by
   simp[bc,bQ,bU,bI,hc.imp,hc.pkg,hc.stk,hc.ds,e1,e2,k2,show cT≠dC from by decide]
  rw[e] at ha1;obtain⟨l,pl,l1,l2,l3,ha2⟩:=yu hg hp (by omega) ha1 rfl hc.imp rfl;obtain⟨y,hy,ha3⟩:=ha2.step (by omega) (hg _ (by omega) (by omega));have f1:=iS (z:=59) hy (c.sym (by omega) hsem (by decide)) (by decide);refine⟨_,ha3,?_,?_⟩
  ·constructor<;>simp[bc,bQ,bU,bI,hc.imp,hc.stk,hc.errs,f1,l1,l2]
  ·simp[bc,bQ,bU,bI,hc.imp,f1,l1,l2,l3,fe]
 |imp t u v=>
  obtain⟨hb,i1,m,hk,hs,hsem,rfl⟩:=h;have hm:=hs.out.2.2.2;obtain⟨x,hx,ha1⟩:=ha.step (by omega) (hg _ (by omega) (by omega));obtain⟨k1,k2⟩:=eV (l:=dC) (by omega) hb (by decide);obtain⟨e1,e2⟩:=di hx k1;have e:bc s x={s with imp:=some [],pub:=false,weak:=false,ds:=false,pl:=x.pv}:=by
   simp[bc,bQ,bU,bI,hc.imp,hc.pkg,hc.stk,hc.ds,e1,e2,k2]
  rw[e] at ha1;have hmid:∃pl,At c R p s0 i1 {s with imp:=some [],pub:=u,weak:=v,ds:=false,pl:=pl}:=by
   rcases hk with⟨rfl,rfl,rfl⟩|⟨hb',rfl,rfl,rfl⟩|⟨hb',rfl,rfl,rfl⟩
   ·exact⟨_,ha1⟩
   ·obtain⟨y,hy,ha2⟩:=ha1.step (by omega) (hg _ (by omega) (by omega));obtain⟨k3,k4⟩:=eV (l:=bX) (by omega) hb' (by decide);obtain⟨e3,e4⟩:=di hy k3;refine⟨y.pv,?_⟩;have e:bc {s with imp:=some [],pub:=false,weak:=false,ds:=false,pl:=x.pv} y={s with imp:=some [],pub:=true,weak:=false,ds:=false,pl:=y.pv}:=by
     simp[bc,bQ,bU,bI,hc.pkg,e3,e4,k4,show(bX==dQ)=false from by decide]
    rw[←e];exact ha2
   ·obtain⟨y,hy,ha2⟩:=ha1.step (by omega) (hg _ (by omega) (by omega));obtain⟨k3,k4⟩:=eV (l:=dQ) (by omega) hb' (by decide);obtain⟨e3,e4⟩:=di hy k3;refine⟨y.pv,?_⟩;have e:bc {s with imp:=some [],pub:=false,weak:=false,ds:=false,pl:=x.pv} y={s with imp:=some [],pub:=false,weak:=true,ds:=false,pl:=y.pv}:=by
     simp[bc,bQ,bU,bI,hc.pkg,e3,e4,k4,show(dQ==bX)=false from by decide]
    rw[←e];exact ha2
  obtain⟨pl0,ha2⟩:=hmid;obtain⟨l,pl,l1,l3,ha3⟩:=ys hg hs (by omega) ha2 rfl hc.pkg;obtain⟨y,hy,ha4⟩:=ha3.step (by omega) (hg _ (by omega) (by omega));have f1:=iS (z:=59) hy (c.sym (by omega) hsem (by decide)) (by decide);refine⟨_,ha4,?_,?_⟩
  ·constructor<;>simp[bc,bQ,bU,bI,hc.pkg,hc.stk,hc.errs,f1,l1]
  ·simp[bc,bQ,bU,bI,hc.pkg,f1,l1,l3,fe]
theorem TopT.seg{c:PC}{i j:Nat}{d:TopD}(h:TopT c i j d)(hj:j<c.ts.length):Seg c.ts i j∧(tk c.ts (j-1)).kind≠2:=by
 cases d with
 |other=>
  have h:Dcl c.ts i j:=h;exact⟨Dcl.seg h,Dcl.last h⟩
 |pkg t=>
  obtain⟨hb,m,hp,hsem,rfl⟩:=h;obtain⟨o,k1,k2,hm⟩:=hp.out (by omega);obtain⟨w1,-⟩:=eV (l:=cT) (by omega) hb (by decide);have s:=c.sym (by omega) hsem (by decide);exact⟨(Seg.one.trans o.seg (NGa.prev (by rw[show i+1-1=i from by omega,w1];decide))).trans Seg.one (NGa.next s.2 (by decide)),by rw[show m+1-1=m from by omega,s.1];decide⟩
 |imp t u v=>
  obtain⟨hb,i1,m,hk,hs,hsem,rfl⟩:=h;obtain⟨o,k1,k2,hm⟩:=hs.out;obtain⟨w1,-⟩:=eV (l:=dC) (by omega) hb (by decide);have s:=c.sym (by omega) hsem (by decide);have a:Seg c.ts i i1∧(tk c.ts (i1-1)).kind≠2:=by
   rcases hk with⟨rfl,-⟩|⟨hb',rfl,-⟩|⟨hb',rfl,-⟩
   ·exact⟨Seg.one,by rw[show i+1-1=i from by omega,w1];decide⟩
   ·obtain⟨w2,-⟩:=eV (l:=bX) (by omega) hb' (by decide);exact⟨Seg.one.trans Seg.one (NGa.prev (by rw[show i+1-1=i from by omega,w1];decide)),by rw[show i+2-1=i+1 from by omega,w2];decide⟩
   ·obtain⟨w2,-⟩:=eV (l:=dQ) (by omega) hb' (by decide);exact⟨Seg.one.trans Seg.one (NGa.prev (by rw[show i+1-1=i from by omega,w1];decide)),by rw[show i+2-1=i+1 from by omega,w2];decide⟩
  exact⟨(a.1.trans o.seg (NGa.prev a.2)).trans Seg.one (NGa.next s.2 (by decide)),by rw[show m+1-1=m from by omega,s.1];decide⟩
theorem TopT.lt{c:PC}{i j:Nat}{d:TopD}(h:TopT c i j d)(hj:j<c.ts.length):i<j:=by
 cases d with
 |other=>
  rcases Nat.lt_or_ge i j with e|e
  ·exact e
  ·have:=h.run [] false;rw[show j-i=0 from by omega] at this;simp[dJ] at this
 |pkg t=>
  obtain⟨hb,m,hp,hsem,rfl⟩:=h;have:=(hp.out (by omega)).2.2.2;omega
 |imp t u v=>
  obtain⟨hb,i1,m,hk,hs,hsem,rfl⟩:=h;have:=hs.out.2.2.2;omega
theorem FSeg.seg{c:PC}{i j:Nat}{ds:List TopD}(h:FSeg c i j ds):j<c.ts.length→Seg c.ts i j∧(i<j→(tk c.ts (j-1)).kind≠2):=by
 induction h with
 |nil=>intro _;exact⟨Seg.nil,fun h=>by omega⟩
 | @snoc j k ds d _ ht ih=>
  intro hk;have hlt:=ht.lt hk;obtain⟨s1,k1⟩:=ih (by omega);obtain⟨s2,k2⟩:=ht.seg hk;refine⟨?_,fun _=>k2⟩;rcases Nat.lt_or_ge i j with e|e
  ·exact s1.trans s2 (NGa.prev (k1 e))
  ·have:i=j:=by have:=s1.le;omega
   subst this;exact s2
theorem p9{c:PC}{ds:List TopD}(h:FSeg c 0 (c.ts.length-1) ds)(h0:0<c.ts.length){R:List Int}(hR:LR R (vK c 0)):∃s,bT R ⟨0,0⟩ lj=(s,true)∧s.errs=[]∧(s.imports,s.name)=ds.foldl fe ([],[]):=by
 have hg:∀m,0<m→m<c.ts.length→NGa c.ts m:=by
  intro m m0 hm;obtain⟨s1,k1⟩:=h.seg (by omega);rcases Nat.lt_or_ge m (c.ts.length-1) with e|e
  ·exact s1.ng m m0 e
  ·have e':m=c.ts.length-1:=by omega
   subst e';exact NGa.prev (k1 (by omega))
 have key:∀ {i j:Nat} {ds:List TopD},FSeg c i j ds→j<c.ts.length→∀s,At c R ⟨0,0⟩ lj i s→Clear s→∃s',At c R ⟨0,0⟩ lj j s'∧Clear s'∧(s'.imports,s'.name)=ds.foldl fe (s.imports,s.name):=by
  intro i j ds h
  induction h with
  |nil=>intro _ s ha hc;exact⟨s,ha,hc,rfl⟩
  | @snoc j k ds d _ ht ih=>
   intro hk s ha hc;have hlt:=ht.lt hk;obtain⟨s1,a1,c1,e1⟩:=ih (by omega) s ha hc;obtain⟨s2,a2,c2,e2⟩:=uj hg ht hlt hk a1 c1;exact⟨s2,a2,c2,by rw[e2,e1,List.foldl_append];rfl⟩
 obtain⟨s,ha,hc,e⟩:=key h (by omega) lj ⟨R,⟨0,0⟩,rfl,hR⟩ ⟨rfl,rfl,rfl,rfl,rfl⟩;exact⟨s,ha.fin (by omega),hc.errs,e⟩
end Go.Proofs.YtnclklfhjbkjhaaGreatDoor
