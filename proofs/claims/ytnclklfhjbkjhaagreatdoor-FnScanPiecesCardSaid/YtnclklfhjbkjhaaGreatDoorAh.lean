/- Part of the proof: C0 C1 C2. -/
import Derived.Test.YtnclklfhjbkjhaaGreatDoorAg
set_option maxRecDepth 1000000
set_option maxHeartbeats 40000000
set_option linter.unusedSimpArgs false
namespace Go.Proofs.YtnclklfhjbkjhaaGreatDoor
open Tryz
open Go.RowKit
theorem uz(B:Nat)(kind:Int)(v:Value)(l:List Nd)(w:World)(h:KOwn B w v l)(hl:l≠[])(hsm:l.length≤1000000):
  Calls prog 27 #[.int .i64 kind,v] w fun e w'=>∃k f l t n ka kn kc,e= .returned (.agg #[.int .i64 k,.int .i64 f,.int .i64 l,.string t,.int .u64 n,.slice ka kn kc])∧Keep w w':=by
 obtain⟨ka,kc,rfl,-⟩:=h.form;exact(node_any B kind _ l w h hl hsm).mono fun e w' ⟨h1,h2⟩=>⟨_,_,_,_,_,_,_,_,h1,h2⟩
theorem IP.nm{c:PC}{i j k:Nat}{e:Bool}(h:IP c i j e)(hk:k≤c.ts.length)(e1:k=j+1)(kk:(tk c.ts j).kind=1):IP c i k true:=
 h.name (a:=0) (b:=0) (d:=0) (n:=0) (t:=(tk c.ts j).raw) (v:= .bool true) (w:=World.mk #[] default default default default) hk ⟨e1,kk,rfl⟩
theorem lJ(c:PC)(at_:Nat)(mild:Bool)(w:World)(h:PSt c at_ mild w):
  Calls prog 119 #[.pointer (some ⟨c.bp,0,none⟩)] w (NPost c at_ mild w (pR c at_)):=by
 have E0:=Z (Env.start h);clear h;go_enter func119,ntmps119;go_wp2_with fail;have E1:=Z (E0.allocZ);refine nC (aY c _ (at_) mild _ E1.st) E1 (fun _ _ p=>?_) (fun w2 at2 k2 f2 l2 t2 n2 ka2 kn2 kc2 HG2 HL2 E2=>?_)
 ·go_wp2_with fail;exact⟨rfl,.inr p⟩
 have I2:=Z (IP.word (IP.nil (e:=true)) (by have:=E2.st.lt;omega) (qp _) (by decide) HG2);go_wp2_with fail;refine nC (ak c _ (at2) mild _ E2.st) E2 (fun _ _ p=>?_) (fun w3 at3 k3 f3 l3 t3 n3 ka3 kn3 kc3 HG3 HL3 E3=>?_)
 ·go_wp2_with fail;exact⟨rfl,.inr p⟩
 go_wp2_with (refine bs2 rfl rfl ?_;refine Hid.out ?_);refine Z ?_;have E4:=Z (E3.addNew [Nd.mk k2 f2 l2 t2 n2 ka2 kn2 kc2,Nd.mk k3 f3 l3 t3 n3 ka3 kn3 kc3] #[.int .i64 k2,.int .i64 f2,.int .i64 l2,.string t2,.int .u64 n2,.slice ka2 kn2 kc2,.int .i64 k3,.int .i64 f3,.int .i64 l3,.string t3,.int .u64 n3,.slice ka3 kn3 kc3] rfl (by simp));go_wp2_with fail;refine aG (fun x=>Hid (Env c (at3) mild w [(w.heap.size,#[.int .i64 0,.int .i64 0,.int .i64 0,.string ⟨#[]⟩,.int .u64 0,.slice none 0 0])] [(.slice (some ⟨w3.heap.size,0,none⟩) 2 2,[Nd.mk k2 f2 l2 t2 n2 ka2 kn2 kc2,Nd.mk k3 f3 l3 t3 n3 ka3 kn3 kc3])] x)) E4 ?_;intro x5 X5;obtain⟨hb,hbt,hat,hsm,c0,c1,-,-,-,-,-,d0,d1,d2,d3,d4⟩:=X5.st.facts;generalize ht:tk c.ts at3=t at*
 obtain⟨tkind,raw,val,num,item⟩:=t;have HT:=Z ht;clear ht;dsimp only at*
 by_cases hk:tkind=1
 ·subst hk;go_region;have E6:=Z (X5.keep (((Fr.refl _).alloc (.cells #[.int .i64 1,.string raw,.string val,.int .u64 num,.int .i64 item] 48)).drew));clear c0 c1 d0 d1 d2 d3 d4 hb hbt;go_wp2_with fail;refine(cB _ _).mono ?_;rintro e w' ⟨rfl,rfl⟩;cases hs:fX raw.toList
  ·go_wp2_with fail;refine(ap c (at3) mild _ E6.st).mono ?_;rintro e wq ⟨ch,rfl,hS,F⟩;go_wp2_with fail;exact⟨rfl,.inr (E6.pan ⟨ch,rfl,hS,F⟩)⟩
  ·go_wp2_with fail
   ·refine(ap c (at3) mild _ E6.st).mono ?_;rintro e wq ⟨ch,rfl,hS,F⟩;go_wp2_with fail;exact⟨rfl,.inr (E6.pan ⟨ch,rfl,hS,F⟩)⟩
   ·refine(ap c (at3) mild _ E6.st).mono ?_;rintro e wq ⟨ch,rfl,hS,F⟩;go_wp2_with fail;exact⟨rfl,.inr (E6.pan ⟨ch,rfl,hS,F⟩)⟩
   ·refine(ap c (at3) mild _ E6.st).mono ?_;rintro e wq ⟨ch,rfl,hS,F⟩;go_wp2_with fail;exact⟨rfl,.inr (E6.pan ⟨ch,rfl,hS,F⟩)⟩
   ·refine nC (bm c 29 (at3) mild _ E6.st (by rw[HT.out];simp)) E6 (fun _ _ p=>?_) (fun w7 at7 k7 f7 l7 t7 n7 ka7 kn7 kc7 HG7 HL7 E7=>?_)
    ·go_wp2_with fail;exact⟨rfl,.inr p⟩
    go_wp2_with (refine aB E7 (by simp) (by simp) (by decide) rfl rfl ?_;intro v8 w8 E8);refine Z ?_;go_wp2_with fail;have J7:=Z (IP.nm (IP.nil (c:=c) (i:=at3) (e:=true)) (by have:=E8.st.lt;omega) HG7.1 (by rw[HT.out]));refine nC (ak c _ (at7) mild _ E8.st) E8 (fun _ _ p=>?_) (fun w9 at9 k9 f9 l9 t9 n9 ka9 kn9 kc9 HG9 HL9 E9=>?_)
    ·go_wp2_with fail;exact⟨rfl,.inr p⟩
    go_wp2_with (refine aB E9 (by simp) (by simp) (by decide) rfl rfl ?_;intro v10 w10 E10);refine Z ?_;go_wp2_with fail;have I9:=Z (IP.sym J7 (by have:=E10.st.lt;omega) (by decide) (by decide) (by decide) HG9);refine nC (dY c (at9) mild _ E10.st) E10 (fun _ _ p=>?_) (fun w11 at11 k11 f11 l11 t11 n11 ka11 kn11 kc11 HG11 HL11 E11=>?_)
    ·go_wp2_with fail;exact⟨rfl,.inr p⟩
    go_wp2_with (refine aB E11 (by simp) (by simp) (by decide) rfl rfl ?_;intro v12 w12 E12);refine Z ?_;go_wp2_with fail;have I11:=Z (IP.go I9 HL11 HG11);refine nC (ak c _ (at11) mild _ E12.st) E12 (fun _ _ p=>?_) (fun w13 at13 k13 f13 l13 t13 n13 ka13 kn13 kc13 HG13 HL13 E13=>?_)
    ·go_wp2_with fail;exact⟨rfl,.inr p⟩
    go_wp2_with (refine aB E13 (by simp) (by simp) (by decide) rfl rfl ?_;intro v14 w14 E14);refine Z ?_;go_wp2_with fail;have I13:=Z (IP.wrap (by simp) I2.out (by have:=E14.st.lt;omega) HG3.out I11.inr HG13.out);refine(uz w.heap.size 14 _ _ _ E14.k1 (by simp) (by simp)).mono ?_;rintro e w15 ⟨k15,f15,l15,t15,n15,ka15,kn15,kc15,rfl,kk⟩;have E15:=Z (E14.keep kk);clear kk;have E16:=Z E15.dropK;go_wp2_with fail;refine nC (a_ c (at13) mild _ E16.st) E16 (fun _ _ p=>?_) (fun w17 at17 k17 f17 l17 t17 n17 ka17 kn17 kc17 HG17 HL17 E17=>?_)
    ·go_wp2_with fail;exact⟨rfl,.inr p⟩
    have I17:=Z (IP.name I13 (by have:=E17.st.lt;omega) HG17);go_wp2_with (refine bs2 rfl rfl ?_;refine Hid.out ?_);refine Z ?_;have E18:=Z (E17.addNew [Nd.mk k15 f15 l15 t15 n15 ka15 kn15 kc15,Nd.mk k17 f17 l17 t17 n17 ka17 kn17 kc17] #[.int .i64 k15,.int .i64 f15,.int .i64 l15,.string t15,.int .u64 n15,.slice ka15 kn15 kc15,.int .i64 k17,.int .i64 f17,.int .i64 l17,.string t17,.int .u64 n17,.slice ka17 kn17 kc17] rfl (by simp));go_wp2_with fail;refine bO E18 (fun w19 E19=>?_);cases h19:aH (tk c.ts (at17)) {data:=#[61]}
    ·have H19:=Z h19;clear h19;go_wp2_with fail;refine(ap c (at17) mild _ E19.st).mono ?_;rintro e wq ⟨ch,rfl,hS,F⟩;go_wp2_with fail;exact⟨rfl,.inr (E19.pan ⟨ch,rfl,hS,F⟩)⟩
    ·have H19:=Z h19;clear h19;go_wp2_with fail;refine nC (ak c _ (at17) mild _ E19.st) E19 (fun _ _ p=>?_) (fun w20 at20 k20 f20 l20 t20 n20 ka20 kn20 kc20 HG20 HL20 E20=>?_)
     ·go_wp2_with fail;exact⟨rfl,.inr p⟩
     have I20:=Z (IP.sym I17 (by have:=E20.st.lt;omega) (by decide) (by decide) (by decide) HG20);go_wp2_with (refine aB E20 (E20.sm (by have:=HL17.out;have:=HL13.out;have:=HL20.out;simp at*;omega)) (by simp) (by decide) rfl rfl ?_;intro v21 w21 E21);refine Z ?_;go_wp2_with fail;refine nC (bK c (at20) mild _ E21.st) E21 (fun _ _ p=>?_) (fun w22 at22 k22 f22 l22 t22 n22 ka22 kn22 kc22 HG22 HL22 E22=>?_)
     ·go_wp2_with fail;exact⟨rfl,.inr p⟩
     have I22:=Z (IP.whole I20 (by have:=E22.st.lt;omega) HG22);go_wp2_with (refine aB E22 (E22.sm (by have:=HL17.out;have:=HL13.out;have:=HL20.out;have:=HL22.out;simp at*;omega)) (by simp) (by decide) rfl rfl ?_;intro v23 w23 E23);refine Z ?_;go_wp2_with fail;refine(aW c w.heap.size _ _ (by simp) (at22) mild _ E23.st E23.k1 E23.bp0 E23.bt0 E23.fr.size (by have:=HL17.out;have:=HL13.out;have:=HL20.out;have:=HL22.out;simp at*;omega)).mono ?_;rintro e w24 (⟨at24,v24,l24,rfl,hP,hO,hN,F,hS,hlt,hlen,hG⟩|⟨ch,rfl,hS,F⟩);rotate_left
     ·go_wp2_with fail;exact⟨rfl,.inr (E23.lpan hS F)⟩
     have HG24:=Z hG;have HL24:=Z hlt;have HM24:=Z hlen;have HN24:=Z hN;have E24:=Z (E23.lst hP hO F hS);clear hP hO hN F hS hlt hlen hG;go_wp2_with fail;have I24:=Z (I22.comp HL24 HG24);refine nC (ak c _ (at24) mild _ E24.st) E24 (fun _ _ p=>?_) (fun w25 at25 k25 f25 l25 t25 n25 ka25 kn25 kc25 HG25 HL25 E25=>?_)
     ·go_wp2_with fail;exact⟨rfl,.inr p⟩
     have I25:=Z (IP.semi I24 (by have:=E25.st.lt;omega) HG25);go_wp2_with (refine aB E25 (E25.sm (by have:=HM24.out;have:=HL25.out;omega)) (by simp) (by decide) rfl rfl ?_;intro v26 w26 E26);refine Z ?_;go_wp2_with fail;obtain⟨g27,kc27,hv,-,-,-⟩:=E26.k1.big (by simp);subst hv;refine kC (node_any w.heap.size 13 _ _ _ E26.k1 (by simp) (E26.sm (by have:=HM24.out;have:=HL25.out;simp;omega))) E26 (fun w27 E27=>?_);have hlt:at_<at25:=by have:=HL2.out;have:=HL3.out;have:=HL7.out;have:=HL9.out;have:=HL11.out;have:=HL13.out;have:=HL17.out;have:=HL20.out;have:=HL22.out;have:=HL24.out;have:=HL25.out;omega
     go_wp2_with (refine aw E27.z1 rfl rfl rfl ?_);exact aS E27 hlt (I25.el hlt) rfl rfl rfl
 ·have hk':(tkind !=1)=true:=by simp[hk]
  clear hk;go_region;have E28:=Z (X5.keep (((Fr.refl _).alloc (.cells #[.int .i64 tkind,.string raw,.string val,.int .u64 num,.int .i64 item] 48)).drew));clear c0 c1 d0 d1 d2 d3 d4 hb hbt;go_wp2_with fail;refine(bh c (at3) mild _ E28.st).mono ?_;rintro e wq ⟨ch,rfl,hS,F⟩;go_wp2_with fail;exact⟨rfl,.inr (E28.pan ⟨ch,rfl,hS,F⟩)⟩
def jO(c:PC)(a0:Nat):Prop:=∀ (a:Nat) (w:World),a0≤a→PSt c a false w→Calls prog 82 #[.pointer (some ⟨c.bp,0,none⟩)] w (NPost c a false w (pR c a))
theorem pG{c:PC}{One:Nat→Nat→Prop}(hone:∀i j,One i j→InR c.ts i j∧(tk c.ts (j-1)).kind≠2){i j:Nat}(h:ESeg One c.ts i j)(hj:j≤c.ts.length):IP c i j true:=by
 induction h with
 |nil=>exact IP.nil
 | @semi j h1 h2 ih=>exact(ih (by omega)).semi (a:=0) (b:=0) (d:=0) (n:=0) (t:=_) (v:= .bool true) (w:=World.mk #[] default default default default) hj ⟨rfl,h2,rfl⟩
 | @one j k h1 h2 ih=>
  have o:=hone _ _ h2;have hle:=o.1.seg.le;by_cases e:j=k
  ·subst e;exact ih hj
  ·exact(ih (by omega)).ext o.1 (by omega) (.inl rfl) fun _=>o.2
theorem IP.body{c:PC}{i j k:Nat}{e:Bool}{One:Nat→Nat→Prop}(h:IP c i j e)(hone:∀i j,One i j→InR c.ts i j∧(tk c.ts (j-1)).kind≠2)(hk:k≤c.ts.length)(g:tS c One j k):IP c i k true:=by
 obtain⟨g1,m,g2,g3,rfl⟩:=g;have o:=pG hone g2 (by omega);exact h.wrap (x:=123) (y:=125) (j1:=j+1) (j2:=m) (a:=0) (b:=0) (d:=0) (n:=0) (t:=_) (v:= .bool true) (w:=World.mk #[] default default default default) (a':=0) (b':=0) (d':=0) (n':=0) (t':=_) (v':= .bool true) (w':=World.mk #[] default default default default) (by simp) hk ⟨rfl,g1,rfl⟩ o.inr ⟨rfl,g3,rfl⟩
def yb(c:PC)(at_:Nat)(mild:Bool)(w:World)(bs:List (Nat×Array Value))(e:Ending)(w':World):Prop:=
 (∃at' k f l t n ka kn kc,e= .returned (.agg #[.int .i64 k,.int .i64 f,.int .i64 l,.string t,.int .u64 n,.slice ka kn kc])∧Env c at' mild w bs [] w'∧at_<at'∧∀i,i≤at_→∀e,IP c i at_ e→IP c i at' true)∨PPost c w e w'
theorem fx(c:PC)(at_:Nat)(w wc:World)(b0:Nat)(A0:Array Value)(v:Value)(l:List Nd)(hE:Env c at_ false w [(b0,A0)] [(v,l)] wc)(hl:l.length≤at_)(hel:jO c (at_+1)):
  Calls prog 122 #[.pointer (some ⟨c.bp,0,none⟩),v] wc (yb c at_ false w [(b0,A0)]):=by
 have E0:=Z hE;have HL:=Z hl;have HE:=Z hel;clear hE hl hel;go_enter func122,ntmps122;go_wp2_with fail;have E1:=Z (E0.allocZ);refine nC (aY c _ (at_) false _ E1.st) E1 (fun _ _ p=>?_) (fun w2 at2 k2 f2 l2 t2 n2 ka2 kn2 kc2 HG2 HL2 E2=>?_)
 ·go_wp2_with fail;exact⟨rfl,.inr p⟩
 go_wp2_with (refine aB E2 (E2.sm (by have:=HL.out;have:=HL2.out;simp at*;omega)) (by simp) (by decide) rfl rfl ?_;intro v3 w3 E3);refine Z ?_;go_wp2_with fail;refine nC (a_ c (at2) false _ E3.st) E3 (fun _ _ p=>?_) (fun w4 at4 k4 f4 l4 t4 n4 ka4 kn4 kc4 HG4 HL4 y=>?_)
 ·go_wp2_with fail;exact⟨rfl,.inr p⟩
 have LT4:=Z (af y.out.z1);have E4:=Z (y.out.alloc #[.int .i64 k4,.int .i64 f4,.int .i64 l4,.string t4,.int .u64 n4,.slice ka4 kn4 kc4]);clear y;have hs:0<t4.size:=by
  obtain⟨c0,r,e,-⟩:=(c.wf at2 (by have:=HL4.out;have:=E4.st.lt;omega)).1 HG4.2.1;rw[←HG4.2.2] at e;have e2:=congrArg List.length e;rw[qi] at e2;simp at e2;omega
 have hs2:(0:Int) < (t4.size:Int):=by omega
 have HS:=Z hs;have hsm:=Z (show(l++ [Nd.mk k2 f2 l2 t2 n2 ka2 kn2 kc2]).length≤1000000 from E4.sm (by have:=HL.out;have:=HL2.out;have:=HL4.out;simp at*;omega));go_wp2_with (first|(refine yi E4.z1 (i:=3) rfl rfl (.inr (.inl rfl)) ?_)|(refine cE E4.z1 rfl ?_)|(refine app1 E4.k1 E4.fr.size hsm.out (by simp[Act.put]) (by decide) rfl rfl ?_;intro v5 w5 o2 f2 s2;refine Hid.out ?_));rotate_left;rotate_left
 ·refine(ap c at4 false _ E4.st).mono ?_;rintro e wq ⟨ch,rfl,hS,F⟩;go_wp2_with fail;exact⟨rfl,.inr (E4.pan ⟨ch,rfl,hS,F⟩)⟩
 ·refine(ap c at4 false _ E4.st).mono ?_;rintro e wq ⟨ch,rfl,hS,F⟩;go_wp2_with fail;exact⟨rfl,.inr (E4.pan ⟨ch,rfl,hS,F⟩)⟩
 refine Z ?_;have E5:=Z (E4.grow o2 f2 s2);clear o2 f2 s2;go_wp2_with fail;refine bO E5 (fun w6 E6=>?_);cases h6:aH (tk c.ts (at4)) {data:=#[61]}
 ·have H6:=Z h6;clear h6;go_wp2_with fail;refine(ap c (at4) false _ E6.st).mono ?_;rintro e wq ⟨ch,rfl,hS,F⟩;go_wp2_with fail;exact⟨rfl,.inr (E6.pan ⟨ch,rfl,hS,F⟩)⟩
 ·have H6:=Z h6;clear h6;go_wp2_with fail;refine nC (ak c _ (at4) false _ E6.st) E6 (fun _ _ p=>?_) (fun w7 at7 k7 f7 l7 t7 n7 ka7 kn7 kc7 HG7 HL7 E7=>?_)
  ·go_wp2_with fail;exact⟨rfl,.inr p⟩
  go_wp2_with (refine aB E7 (E7.sm (by have:=HL.out;have:=HL2.out;have:=HL4.out;have:=HL7.out;simp at*;omega)) (by simp) (by decide) rfl rfl ?_;intro v8 w8 E8);refine Z ?_;go_wp2_with fail;refine nC (bK c (at7) false _ E8.st) E8 (fun _ _ p=>?_) (fun w9 at9 k9 f9 l9 t9 n9 ka9 kn9 kc9 HG9 HL9 E9=>?_)
  ·go_wp2_with fail;exact⟨rfl,.inr p⟩
  go_wp2_with (refine aB E9 (E9.sm (by have:=HL.out;have:=HL2.out;have:=HL4.out;have:=HL7.out;have:=HL9.out;simp at*;omega)) (by simp) (by decide) rfl rfl ?_;intro v10 w10 E10);refine Z ?_;go_wp2_with fail;refine(aW c w.heap.size _ _ (by simp) (at9) false _ E10.st E10.k1 E10.bp0 E10.bt0 E10.fr.size (by have:=HL.out;have:=HL2.out;have:=HL4.out;have:=HL7.out;have:=HL9.out;simp at*;omega)).mono ?_;rintro e w11 (⟨at11,v11,l11,rfl,hP,hO,hN,F,hS,hlt,hlen,hG⟩|⟨ch,rfl,hS,F⟩);rotate_left
  ·go_wp2_with fail;exact⟨rfl,.inr (E10.lpan hS F)⟩
  have HG11:=Z hG;have HL11:=Z hlt;have HM11:=Z hlen;have HN11:=Z hN;have E11:=Z (E10.lst hP hO F hS);clear hP hO hN F hS hlt hlen hG;go_wp2_with fail;refine(dx c 82 #[.pointer (some ⟨c.bp,0,none⟩)] #[] w.heap.size _ _ HN11 at11 false _ (fun i j=>InR c.ts i j∧(tk c.ts (j-1)).kind≠2) (fun _=>True) (fun _ _ _ _=>trivial) trivial (fun _ _=>by kernel_rfl) (fun a w1 ha hs _=>HE a w1 (by have:=HL2.out;have:=HL4.out;have:=HL7.out;have:=HL9.out;have:=HL11.out;omega) hs) E11.st E11.k1 E11.bp0 E11.bt0 E11.fr.size HM11).mono ?_;rintro e w12 (⟨at12,v12,l12,rfl,hP,hO,hN,F,hS,hlt,hlen,hG⟩|⟨ch,rfl,hS,F⟩);rotate_left
  ·go_wp2_with fail;exact⟨rfl,.inr (E11.lpan hS F)⟩
  have HG12:=Z hG;have HL12:=Z hlt;have HM12:=Z hlen;have E12:=Z (E11.lst hP hO F hS);clear hP hO hN F hS hlt hlen hG;go_wp2_with fail;obtain⟨g13,kc13,hv,-,-,-⟩:=E12.k1.big (by have:=HN11.out;simp[this]);subst hv;refine kC (node_any w.heap.size 12 _ _ _ E12.k1 (by have:=HN11.out;simp[this]) (E12.sm HM12.out)) E12 (fun w13 E13=>?_);go_wp2_with (refine aw E13.z2 rfl rfl rfl ?_);refine qh (aN rfl (setRow_heap _ _ _ _ _ _ E13.z2) rfl) rfl ?_;exact .inl ⟨at12,_,_,_,_,_,_,_,_,rfl,(E13.dropK.dropB.set0 _).dropB,by have:=HL2.out;have:=HL4.out;have:=HL7.out;have:=HL9.out;have:=HL11.out;have:=HL12.out;omega,fun i hi e h=>(((((((IP.word h (by have:=E13.st.lt;have:=HL2.out;have:=HL4.out;have:=HL7.out;have:=HL9.out;have:=HL11.out;have:=HL12.out;omega) (qp _) (by decide) HG2).name (by have:=E13.st.lt;have:=HL2.out;have:=HL4.out;have:=HL7.out;have:=HL9.out;have:=HL11.out;have:=HL12.out;omega) HG4).sym (by have:=E13.st.lt;have:=HL2.out;have:=HL4.out;have:=HL7.out;have:=HL9.out;have:=HL11.out;have:=HL12.out;omega) (by decide) (by decide) (by decide) HG7).whole (by have:=E13.st.lt;have:=HL2.out;have:=HL4.out;have:=HL7.out;have:=HL9.out;have:=HL11.out;have:=HL12.out;omega) HG9).comp HL11 HG11).body (fun _ _ h=>h) (by have:=E13.st.lt;have:=HL2.out;have:=HL4.out;have:=HL7.out;have:=HL9.out;have:=HL11.out;have:=HL12.out;omega) HG12))⟩
theorem ny(c:PC)(at_:Nat)(w:World)(h:PSt c at_ false w)(hel:jO c (at_+1)):
  Calls prog 89 #[.pointer (some ⟨c.bp,0,none⟩),.bool false] w (NPost c at_ false w (pR c at_)):=by
 have E0:=Z (Env.start h);clear h;have HE:=Z hel;clear hel;go_enter func89,ntmps89;go_wp2_with fail;have E1:=Z (E0.allocZ);have E2:=Z (E1.addNil);refine bO E2 (fun w3 E3=>?_);cases h3:aH (tk c.ts (at_)) {data:=#[103,114,111,117,112]}
 ·have H3:=Z h3;clear h3;go_wp2_with fail;refine nC (dY c (at_) false _ E3.st) E3 (fun _ _ p=>?_) (fun w4 at4 k4 f4 l4 t4 n4 ka4 kn4 kc4 HG4 HL4 E4=>?_)
  ·go_wp2_with fail;exact⟨rfl,.inr p⟩
  go_wp2_with (refine aB E4 (by simp) (by simp) (by decide) rfl rfl ?_;intro v5 w5 E5);refine Z ?_;go_wp2_with fail;have I4:=Z (IP.go (IP.nil (e:=true)) HL4 HG4);refine nC (a_ c (at4) false _ E5.st) E5 (fun _ _ p=>?_) (fun w6 at6 k6 f6 l6 t6 n6 ka6 kn6 kc6 HG6 HL6 E6=>?_)
  ·go_wp2_with fail;exact⟨rfl,.inr p⟩
  go_wp2_with (refine aB E6 (by simp) (by simp) (by decide) rfl rfl ?_;intro v7 w7 E7);refine Z ?_;go_wp2_with fail;have I6:=Z (IP.name I4 (by have:=E7.st.lt;omega) HG6);refine bO E7 (fun w8 E8=>?_);cases h8:aH (tk c.ts (at6)) {data:=#[61]}
  ·have H8:=Z h8;clear h8;go_wp2_with fail;refine(ap c (at6) false _ E8.st).mono ?_;rintro e wq ⟨ch,rfl,hS,F⟩;go_wp2_with fail;exact⟨rfl,.inr (E8.pan ⟨ch,rfl,hS,F⟩)⟩
  ·have H8:=Z h8;clear h8;go_wp2_with fail;refine nC (ak c _ (at6) false _ E8.st) E8 (fun _ _ p=>?_) (fun w9 at9 k9 f9 l9 t9 n9 ka9 kn9 kc9 HG9 HL9 E9=>?_)
   ·go_wp2_with fail;exact⟨rfl,.inr p⟩
   have I9:=Z (IP.sym I6 (by have:=E9.st.lt;omega) (by decide) (by decide) (by decide) HG9);go_wp2_with (refine aB E9 (E9.sm (by have:=HL4.out;have:=HL6.out;have:=HL9.out;simp at*;omega)) (by simp) (by decide) rfl rfl ?_;intro v10 w10 E10);refine Z ?_;go_wp2_with fail;refine nC (bK c (at9) false _ E10.st) E10 (fun _ _ p=>?_) (fun w11 at11 k11 f11 l11 t11 n11 ka11 kn11 kc11 HG11 HL11 E11=>?_)
   ·go_wp2_with fail;exact⟨rfl,.inr p⟩
   have I11:=Z (IP.whole I9 (by have:=E11.st.lt;omega) HG11);go_wp2_with (refine aB E11 (E11.sm (by have:=HL4.out;have:=HL6.out;have:=HL9.out;have:=HL11.out;simp at*;omega)) (by simp) (by decide) rfl rfl ?_;intro v12 w12 E12);refine Z ?_;go_wp2_with fail;refine(aW c w.heap.size _ _ (by simp) (at11) false _ E12.st E12.k1 E12.bp0 E12.bt0 E12.fr.size (by have:=HL4.out;have:=HL6.out;have:=HL9.out;have:=HL11.out;simp at*;omega)).mono ?_;rintro e w13 (⟨at13,v13,l13,rfl,hP,hO,hN,F,hS,hlt,hlen,hG⟩|⟨ch,rfl,hS,F⟩);rotate_left
   ·go_wp2_with fail;exact⟨rfl,.inr (E12.lpan hS F)⟩
   have HG13:=Z hG;have HL13:=Z hlt;have HM13:=Z hlen;have HN13:=Z hN;have E13:=Z (E12.lst hP hO F hS);clear hP hO hN F hS hlt hlen hG;go_wp2_with fail;have I13:=Z (I11.comp HL13 HG13);refine nC (ak c _ (at13) false _ E13.st) E13 (fun _ _ p=>?_) (fun w14 at14 k14 f14 l14 t14 n14 ka14 kn14 kc14 HG14 HL14 E14=>?_)
   ·go_wp2_with fail;exact⟨rfl,.inr p⟩
   have I14:=Z (IP.semi I13 (by have:=E14.st.lt;omega) HG14);go_wp2_with (refine aB E14 (E14.sm (by have:=HM13.out;have:=HL14.out;omega)) (by simp) (by decide) rfl rfl ?_;intro v15 w15 E15);refine Z ?_;go_wp2_with fail;obtain⟨g16,kc16,hv,-,-,-⟩:=E15.k1.big (by simp);subst hv;refine kC (node_any w.heap.size 11 _ _ _ E15.k1 (by simp) (E15.sm (by have:=HM13.out;have:=HL14.out;simp;omega))) E15 (fun w16 E16=>?_);have hlt:at_<at14:=by have:=HL4.out;have:=HL6.out;have:=HL9.out;have:=HL11.out;have:=HL13.out;have:=HL14.out;omega
   go_wp2_with (refine aw E16.z1 rfl rfl rfl ?_);exact aS E16 hlt (I14.el hlt) rfl rfl rfl
 ·have H3:=Z h3;clear h3;go_wp2_with fail;refine(fx c at_ w _ _ _ _ _ E3.out (by skip;simp) (fun a w' ha hs=>HE.out a w' (by skip;omega) hs)).mono ?_;rintro e w17 (⟨at17,k17,f17,l17,t17,n17,ka17,kn17,kc17,rfl,hE,hlt,hG⟩|⟨ch,rfl,hS,F⟩);rotate_left
  ·go_wp2_with fail;exact⟨rfl,.inr ⟨ch,rfl,hS,F⟩⟩
  have E17:=Z hE;have HL17:=Z hlt;have HG17:=Z hG;clear hE hlt hG;have hlt:at_<at17:=by have:=HL17.out;omega
  have ip:=HG17 at_ (by omega) true (IP.nil (e:=true));go_wp2_with (refine aw E17.z1 rfl rfl rfl ?_);exact aS E17 hlt (ip.el hlt) rfl rfl rfl
theorem oz(c:PC)(at_:Nat)(w:World)(h:PSt c at_ false w)(hel:jO c (at_+1)):
  Calls prog 89 #[.pointer (some ⟨c.bp,0,none⟩),.bool true] w (NPost c at_ false w (pR c at_)):=by
 have E0:=Z (Env.start h);clear h;have HE:=Z hel;clear hel;go_enter func89,ntmps89;go_wp2_with fail;have E1:=Z (E0.allocZ);have E2:=Z (E1.addNil);refine bO E2 (fun w3 E3=>?_);cases h3:aH (tk c.ts (at_)) {data:=#[111,112,116,105,111,110,97,108]}
 ·have H3:=Z h3;clear h3;go_wp2_with fail;refine bO E3 (fun w4 E4=>?_);cases h4:aH (tk c.ts (at_)) {data:=#[114,101,113,117,105,114,101,100]}
  ·have H4:=Z h4;clear h4;go_wp2_with fail;refine bO E4 (fun w5 E5=>?_);cases h5:aH (tk c.ts (at_)) {data:=#[114,101,112,101,97,116,101,100]}
   ·have H5:=Z h5;clear h5;go_wp2_with fail;refine bO E5 (fun w6 E6=>?_);cases h6:aH (tk c.ts (at_)) {data:=#[103,114,111,117,112]}
    ·have H6:=Z h6;clear h6;go_wp2_with fail;refine nC (dY c (at_) false _ E6.st) E6 (fun _ _ p=>?_) (fun w7 at7 k7 f7 l7 t7 n7 ka7 kn7 kc7 HG7 HL7 E7=>?_)
     ·go_wp2_with fail;exact⟨rfl,.inr p⟩
     go_wp2_with (refine aB E7 (by simp) (by simp) (by decide) rfl rfl ?_;intro v8 w8 E8);refine Z ?_;go_wp2_with fail;have I7:=Z (IP.go (IP.nil (e:=true)) HL7 HG7);refine nC (a_ c (at7) false _ E8.st) E8 (fun _ _ p=>?_) (fun w9 at9 k9 f9 l9 t9 n9 ka9 kn9 kc9 HG9 HL9 E9=>?_)
     ·go_wp2_with fail;exact⟨rfl,.inr p⟩
     go_wp2_with (refine aB E9 (by simp) (by simp) (by decide) rfl rfl ?_;intro v10 w10 E10);refine Z ?_;go_wp2_with fail;have I9:=Z (IP.name I7 (by have:=E10.st.lt;omega) HG9);refine bO E10 (fun w11 E11=>?_);cases h11:aH (tk c.ts (at9)) {data:=#[61]}
     ·have H11:=Z h11;clear h11;go_wp2_with fail;refine(ap c (at9) false _ E11.st).mono ?_;rintro e wq ⟨ch,rfl,hS,F⟩;go_wp2_with fail;exact⟨rfl,.inr (E11.pan ⟨ch,rfl,hS,F⟩)⟩
     ·have H11:=Z h11;clear h11;go_wp2_with fail;refine nC (ak c _ (at9) false _ E11.st) E11 (fun _ _ p=>?_) (fun w12 at12 k12 f12 l12 t12 n12 ka12 kn12 kc12 HG12 HL12 E12=>?_)
      ·go_wp2_with fail;exact⟨rfl,.inr p⟩
      have I12:=Z (IP.sym I9 (by have:=E12.st.lt;omega) (by decide) (by decide) (by decide) HG12);go_wp2_with (refine aB E12 (E12.sm (by have:=HL7.out;have:=HL9.out;have:=HL12.out;simp at*;omega)) (by simp) (by decide) rfl rfl ?_;intro v13 w13 E13);refine Z ?_;go_wp2_with fail;refine nC (bK c (at12) false _ E13.st) E13 (fun _ _ p=>?_) (fun w14 at14 k14 f14 l14 t14 n14 ka14 kn14 kc14 HG14 HL14 E14=>?_)
      ·go_wp2_with fail;exact⟨rfl,.inr p⟩
      have I14:=Z (IP.whole I12 (by have:=E14.st.lt;omega) HG14);go_wp2_with (refine aB E14 (E14.sm (by have:=HL7.out;have:=HL9.out;have:=HL12.out;have:=HL14.out;simp at*;omega)) (by simp) (by decide) rfl rfl ?_;intro v15 w15 E15);refine Z ?_;go_wp2_with fail;refine(aW c w.heap.size _ _ (by simp) (at14) false _ E15.st E15.k1 E15.bp0 E15.bt0 E15.fr.size (by have:=HL7.out;have:=HL9.out;have:=HL12.out;have:=HL14.out;simp at*;omega)).mono ?_;rintro e w16 (⟨at16,v16,l16,rfl,hP,hO,hN,F,hS,hlt,hlen,hG⟩|⟨ch,rfl,hS,F⟩);rotate_left
      ·go_wp2_with fail;exact⟨rfl,.inr (E15.lpan hS F)⟩
      have HG16:=Z hG;have HL16:=Z hlt;have HM16:=Z hlen;have HN16:=Z hN;have E16:=Z (E15.lst hP hO F hS);clear hP hO hN F hS hlt hlen hG;go_wp2_with fail;have I16:=Z (I14.comp HL16 HG16);refine nC (ak c _ (at16) false _ E16.st) E16 (fun _ _ p=>?_) (fun w17 at17 k17 f17 l17 t17 n17 ka17 kn17 kc17 HG17 HL17 E17=>?_)
      ·go_wp2_with fail;exact⟨rfl,.inr p⟩
      have I17:=Z (IP.semi I16 (by have:=E17.st.lt;omega) HG17);go_wp2_with (refine aB E17 (E17.sm (by have:=HM16.out;have:=HL17.out;omega)) (by simp) (by decide) rfl rfl ?_;intro v18 w18 E18);refine Z ?_;go_wp2_with fail;obtain⟨g19,kc19,hv,-,-,-⟩:=E18.k1.big (by simp);subst hv;refine kC (node_any w.heap.size 11 _ _ _ E18.k1 (by simp) (E18.sm (by have:=HM16.out;have:=HL17.out;simp;omega))) E18 (fun w19 E19=>?_);have hlt:at_<at17:=by have:=HL7.out;have:=HL9.out;have:=HL12.out;have:=HL14.out;have:=HL16.out;have:=HL17.out;omega
      go_wp2_with (refine aw E19.z1 rfl rfl rfl ?_);exact aS E19 hlt (I17.el hlt) rfl rfl rfl
    ·have H6:=Z h6;clear h6;go_wp2_with fail;refine(ap c (at_) false _ E6.st).mono ?_;rintro e wq ⟨ch,rfl,hS,F⟩;go_wp2_with fail;exact⟨rfl,.inr (E6.pan ⟨ch,rfl,hS,F⟩)⟩
   ·have H5:=Z h5;clear h5;go_wp2_with fail;refine nC (bm c 31 (at_) false _ E5.st (bH H5)) E5 (fun _ _ p=>?_) (fun w20 at20 k20 f20 l20 t20 n20 ka20 kn20 kc20 HG20 HL20 E20=>?_)
    ·go_wp2_with fail;exact⟨rfl,.inr p⟩
    go_wp2_with (refine aB E20 (by simp) (by simp) (by decide) rfl rfl ?_;intro v21 w21 E21);refine Z ?_;go_wp2_with fail;have I20:=Z (IP.nm (IP.nil (c:=c) (i:=at_) (e:=true)) (by have:=E21.st.lt;omega) HG20.1 (iI (by have:=HL20.out;have:=E21.st.lt;omega) (qp _) (by decide) H5).1);obtain⟨g22,kc22,hv,-,-,-⟩:=E21.k1.big (by simp);subst hv;refine bO E21 (fun w23 E23=>?_);cases h23:aH (tk c.ts (at20)) {data:=#[103,114,111,117,112]}
    ·have H23:=Z h23;clear h23;go_wp2_with fail;refine nC (dY c (at20) false _ E23.st) E23 (fun _ _ p=>?_) (fun w24 at24 k24 f24 l24 t24 n24 ka24 kn24 kc24 HG24 HL24 E24=>?_)
     ·go_wp2_with fail;exact⟨rfl,.inr p⟩
     go_wp2_with (refine aB E24 (by simp) (by simp) (by decide) rfl rfl ?_;intro v25 w25 E25);refine Z ?_;go_wp2_with fail;have I24:=Z (IP.go I20 HL24 HG24);refine nC (a_ c (at24) false _ E25.st) E25 (fun _ _ p=>?_) (fun w26 at26 k26 f26 l26 t26 n26 ka26 kn26 kc26 HG26 HL26 E26=>?_)
     ·go_wp2_with fail;exact⟨rfl,.inr p⟩
     go_wp2_with (refine aB E26 (by simp) (by simp) (by decide) rfl rfl ?_;intro v27 w27 E27);refine Z ?_;go_wp2_with fail;have I26:=Z (IP.name I24 (by have:=E27.st.lt;omega) HG26);refine bO E27 (fun w28 E28=>?_);cases h28:aH (tk c.ts (at26)) {data:=#[61]}
     ·have H28:=Z h28;clear h28;go_wp2_with fail;refine(ap c (at26) false _ E28.st).mono ?_;rintro e wq ⟨ch,rfl,hS,F⟩;go_wp2_with fail;exact⟨rfl,.inr (E28.pan ⟨ch,rfl,hS,F⟩)⟩
     ·have H28:=Z h28;clear h28;go_wp2_with fail;refine nC (ak c _ (at26) false _ E28.st) E28 (fun _ _ p=>?_) (fun w29 at29 k29 f29 l29 t29 n29 ka29 kn29 kc29 HG29 HL29 E29=>?_)
      ·go_wp2_with fail;exact⟨rfl,.inr p⟩
      have I29:=Z (IP.sym I26 (by have:=E29.st.lt;omega) (by decide) (by decide) (by decide) HG29);go_wp2_with (refine aB E29 (E29.sm (by have:=HL20.out;have:=HL24.out;have:=HL26.out;have:=HL29.out;simp at*;omega)) (by simp) (by decide) rfl rfl ?_;intro v30 w30 E30);refine Z ?_;go_wp2_with fail;refine nC (bK c (at29) false _ E30.st) E30 (fun _ _ p=>?_) (fun w31 at31 k31 f31 l31 t31 n31 ka31 kn31 kc31 HG31 HL31 E31=>?_)
      ·go_wp2_with fail;exact⟨rfl,.inr p⟩
      have I31:=Z (IP.whole I29 (by have:=E31.st.lt;omega) HG31);go_wp2_with (refine aB E31 (E31.sm (by have:=HL20.out;have:=HL24.out;have:=HL26.out;have:=HL29.out;have:=HL31.out;simp at*;omega)) (by simp) (by decide) rfl rfl ?_;intro v32 w32 E32);refine Z ?_;go_wp2_with fail;refine(aW c w.heap.size _ _ (by simp) (at31) false _ E32.st E32.k1 E32.bp0 E32.bt0 E32.fr.size (by have:=HL20.out;have:=HL24.out;have:=HL26.out;have:=HL29.out;have:=HL31.out;simp at*;omega)).mono ?_;rintro e w33 (⟨at33,v33,l33,rfl,hP,hO,hN,F,hS,hlt,hlen,hG⟩|⟨ch,rfl,hS,F⟩);rotate_left
      ·go_wp2_with fail;exact⟨rfl,.inr (E32.lpan hS F)⟩
      have HG33:=Z hG;have HL33:=Z hlt;have HM33:=Z hlen;have HN33:=Z hN;have E33:=Z (E32.lst hP hO F hS);clear hP hO hN F hS hlt hlen hG;go_wp2_with fail;have I33:=Z (I31.comp HL33 HG33);refine nC (ak c _ (at33) false _ E33.st) E33 (fun _ _ p=>?_) (fun w34 at34 k34 f34 l34 t34 n34 ka34 kn34 kc34 HG34 HL34 E34=>?_)
      ·go_wp2_with fail;exact⟨rfl,.inr p⟩
      have I34:=Z (IP.semi I33 (by have:=E34.st.lt;omega) HG34);go_wp2_with (refine aB E34 (E34.sm (by have:=HM33.out;have:=HL34.out;omega)) (by simp) (by decide) rfl rfl ?_;intro v35 w35 E35);refine Z ?_;go_wp2_with fail;obtain⟨g36,kc36,hv,-,-,-⟩:=E35.k1.big (by simp);subst hv;refine kC (node_any w.heap.size 11 _ _ _ E35.k1 (by simp) (E35.sm (by have:=HM33.out;have:=HL34.out;simp;omega))) E35 (fun w36 E36=>?_);have hlt:at_<at34:=by have:=HL20.out;have:=HL24.out;have:=HL26.out;have:=HL29.out;have:=HL31.out;have:=HL33.out;have:=HL34.out;omega
      go_wp2_with (refine aw E36.z1 rfl rfl rfl ?_);exact aS E36 hlt (I34.el hlt) rfl rfl rfl
    ·have H23:=Z h23;clear h23;go_wp2_with fail;refine(fx c at20 w _ _ _ _ _ E23.out (by have:=HL20.out;simp;omega) (fun a w' ha hs=>HE.out a w' (by have:=HL20.out;omega) hs)).mono ?_;rintro e w37 (⟨at37,k37,f37,l37,t37,n37,ka37,kn37,kc37,rfl,hE,hlt,hG⟩|⟨ch,rfl,hS,F⟩);rotate_left
     ·go_wp2_with fail;exact⟨rfl,.inr ⟨ch,rfl,hS,F⟩⟩
     have E37:=Z hE;have HL37:=Z hlt;have HG37:=Z hG;clear hE hlt hG;have hlt:at_<at37:=by have:=HL20.out;have:=HL37.out;omega
     have ip:=HG37 at_ (by have:=HL20.out;omega) true I20.out;go_wp2_with (refine aw E37.z1 rfl rfl rfl ?_);exact aS E37 hlt (ip.el hlt) rfl rfl rfl
  ·have H4:=Z h4;clear h4;go_wp2_with fail;refine nC (bm c 31 (at_) false _ E4.st (bH H4)) E4 (fun _ _ p=>?_) (fun w38 at38 k38 f38 l38 t38 n38 ka38 kn38 kc38 HG38 HL38 E38=>?_)
   ·go_wp2_with fail;exact⟨rfl,.inr p⟩
   go_wp2_with (refine aB E38 (by simp) (by simp) (by decide) rfl rfl ?_;intro v39 w39 E39);refine Z ?_;go_wp2_with fail;have I38:=Z (IP.nm (IP.nil (c:=c) (i:=at_) (e:=true)) (by have:=E39.st.lt;omega) HG38.1 (iI (by have:=HL38.out;have:=E39.st.lt;omega) (qp _) (by decide) H4).1);obtain⟨g40,kc40,hv,-,-,-⟩:=E39.k1.big (by simp);subst hv;refine bO E39 (fun w41 E41=>?_);cases h41:aH (tk c.ts (at38)) {data:=#[103,114,111,117,112]}
   ·have H41:=Z h41;clear h41;go_wp2_with fail;refine nC (dY c (at38) false _ E41.st) E41 (fun _ _ p=>?_) (fun w42 at42 k42 f42 l42 t42 n42 ka42 kn42 kc42 HG42 HL42 E42=>?_)
    ·go_wp2_with fail;exact⟨rfl,.inr p⟩
    go_wp2_with (refine aB E42 (by simp) (by simp) (by decide) rfl rfl ?_;intro v43 w43 E43);refine Z ?_;go_wp2_with fail;have I42:=Z (IP.go I38 HL42 HG42);refine nC (a_ c (at42) false _ E43.st) E43 (fun _ _ p=>?_) (fun w44 at44 k44 f44 l44 t44 n44 ka44 kn44 kc44 HG44 HL44 E44=>?_)
    ·go_wp2_with fail;exact⟨rfl,.inr p⟩
    go_wp2_with (refine aB E44 (by simp) (by simp) (by decide) rfl rfl ?_;intro v45 w45 E45);refine Z ?_;go_wp2_with fail;have I44:=Z (IP.name I42 (by have:=E45.st.lt;omega) HG44);refine bO E45 (fun w46 E46=>?_);cases h46:aH (tk c.ts (at44)) {data:=#[61]}
    ·have H46:=Z h46;clear h46;go_wp2_with fail;refine(ap c (at44) false _ E46.st).mono ?_;rintro e wq ⟨ch,rfl,hS,F⟩;go_wp2_with fail;exact⟨rfl,.inr (E46.pan ⟨ch,rfl,hS,F⟩)⟩
    ·have H46:=Z h46;clear h46;go_wp2_with fail;refine nC (ak c _ (at44) false _ E46.st) E46 (fun _ _ p=>?_) (fun w47 at47 k47 f47 l47 t47 n47 ka47 kn47 kc47 HG47 HL47 E47=>?_)
     ·go_wp2_with fail;exact⟨rfl,.inr p⟩
     have I47:=Z (IP.sym I44 (by have:=E47.st.lt;omega) (by decide) (by decide) (by decide) HG47);go_wp2_with (refine aB E47 (E47.sm (by have:=HL38.out;have:=HL42.out;have:=HL44.out;have:=HL47.out;simp at*;omega)) (by simp) (by decide) rfl rfl ?_;intro v48 w48 E48);refine Z ?_;go_wp2_with fail;refine nC (bK c (at47) false _ E48.st) E48 (fun _ _ p=>?_) (fun w49 at49 k49 f49 l49 t49 n49 ka49 kn49 kc49 HG49 HL49 E49=>?_)
     ·go_wp2_with fail;exact⟨rfl,.inr p⟩
     have I49:=Z (IP.whole I47 (by have:=E49.st.lt;omega) HG49);go_wp2_with (refine aB E49 (E49.sm (by have:=HL38.out;have:=HL42.out;have:=HL44.out;have:=HL47.out;have:=HL49.out;simp at*;omega)) (by simp) (by decide) rfl rfl ?_;intro v50 w50 E50);refine Z ?_;go_wp2_with fail;refine(aW c w.heap.size _ _ (by simp) (at49) false _ E50.st E50.k1 E50.bp0 E50.bt0 E50.fr.size (by have:=HL38.out;have:=HL42.out;have:=HL44.out;have:=HL47.out;have:=HL49.out;simp at*;omega)).mono ?_;rintro e w51 (⟨at51,v51,l51,rfl,hP,hO,hN,F,hS,hlt,hlen,hG⟩|⟨ch,rfl,hS,F⟩);rotate_left
     ·go_wp2_with fail;exact⟨rfl,.inr (E50.lpan hS F)⟩
     have HG51:=Z hG;have HL51:=Z hlt;have HM51:=Z hlen;have HN51:=Z hN;have E51:=Z (E50.lst hP hO F hS);clear hP hO hN F hS hlt hlen hG;go_wp2_with fail;have I51:=Z (I49.comp HL51 HG51);refine nC (ak c _ (at51) false _ E51.st) E51 (fun _ _ p=>?_) (fun w52 at52 k52 f52 l52 t52 n52 ka52 kn52 kc52 HG52 HL52 E52=>?_)
     ·go_wp2_with fail;exact⟨rfl,.inr p⟩
     have I52:=Z (IP.semi I51 (by have:=E52.st.lt;omega) HG52);go_wp2_with (refine aB E52 (E52.sm (by have:=HM51.out;have:=HL52.out;omega)) (by simp) (by decide) rfl rfl ?_;intro v53 w53 E53);refine Z ?_;go_wp2_with fail;obtain⟨g54,kc54,hv,-,-,-⟩:=E53.k1.big (by simp);subst hv;refine kC (node_any w.heap.size 11 _ _ _ E53.k1 (by simp) (E53.sm (by have:=HM51.out;have:=HL52.out;simp;omega))) E53 (fun w54 E54=>?_);have hlt:at_<at52:=by have:=HL38.out;have:=HL42.out;have:=HL44.out;have:=HL47.out;have:=HL49.out;have:=HL51.out;have:=HL52.out;omega
     go_wp2_with (refine aw E54.z1 rfl rfl rfl ?_);exact aS E54 hlt (I52.el hlt) rfl rfl rfl
   ·have H41:=Z h41;clear h41;go_wp2_with fail;refine(fx c at38 w _ _ _ _ _ E41.out (by have:=HL38.out;simp;omega) (fun a w' ha hs=>HE.out a w' (by have:=HL38.out;omega) hs)).mono ?_;rintro e w55 (⟨at55,k55,f55,l55,t55,n55,ka55,kn55,kc55,rfl,hE,hlt,hG⟩|⟨ch,rfl,hS,F⟩);rotate_left
    ·go_wp2_with fail;exact⟨rfl,.inr ⟨ch,rfl,hS,F⟩⟩
    have E55:=Z hE;have HL55:=Z hlt;have HG55:=Z hG;clear hE hlt hG;have hlt:at_<at55:=by have:=HL38.out;have:=HL55.out;omega
    have ip:=HG55 at_ (by have:=HL38.out;omega) true I38.out;go_wp2_with (refine aw E55.z1 rfl rfl rfl ?_);exact aS E55 hlt (ip.el hlt) rfl rfl rfl
 ·have H3:=Z h3;clear h3;go_wp2_with fail;refine nC (bm c 31 (at_) false _ E3.st (bH H3)) E3 (fun _ _ p=>?_) (fun w56 at56 k56 f56 l56 t56 n56 ka56 kn56 kc56 HG56 HL56 E56=>?_)
  ·go_wp2_with fail;exact⟨rfl,.inr p⟩
  go_wp2_with (refine aB E56 (by simp) (by simp) (by decide) rfl rfl ?_;intro v57 w57 E57);refine Z ?_;go_wp2_with fail;have I56:=Z (IP.nm (IP.nil (c:=c) (i:=at_) (e:=true)) (by have:=E57.st.lt;omega) HG56.1 (iI (by have:=HL56.out;have:=E57.st.lt;omega) (qp _) (by decide) H3).1);obtain⟨g58,kc58,hv,-,-,-⟩:=E57.k1.big (by simp);subst hv;refine bO E57 (fun w59 E59=>?_);cases h59:aH (tk c.ts (at56)) {data:=#[103,114,111,117,112]}
  ·have H59:=Z h59;clear h59;go_wp2_with fail;refine nC (dY c (at56) false _ E59.st) E59 (fun _ _ p=>?_) (fun w60 at60 k60 f60 l60 t60 n60 ka60 kn60 kc60 HG60 HL60 E60=>?_)
   ·go_wp2_with fail;exact⟨rfl,.inr p⟩
   go_wp2_with (refine aB E60 (by simp) (by simp) (by decide) rfl rfl ?_;intro v61 w61 E61);refine Z ?_;go_wp2_with fail;have I60:=Z (IP.go I56 HL60 HG60);refine nC (a_ c (at60) false _ E61.st) E61 (fun _ _ p=>?_) (fun w62 at62 k62 f62 l62 t62 n62 ka62 kn62 kc62 HG62 HL62 E62=>?_)
   ·go_wp2_with fail;exact⟨rfl,.inr p⟩
   go_wp2_with (refine aB E62 (by simp) (by simp) (by decide) rfl rfl ?_;intro v63 w63 E63);refine Z ?_;go_wp2_with fail;have I62:=Z (IP.name I60 (by have:=E63.st.lt;omega) HG62);refine bO E63 (fun w64 E64=>?_);cases h64:aH (tk c.ts (at62)) {data:=#[61]}
   ·have H64:=Z h64;clear h64;go_wp2_with fail;refine(ap c (at62) false _ E64.st).mono ?_;rintro e wq ⟨ch,rfl,hS,F⟩;go_wp2_with fail;exact⟨rfl,.inr (E64.pan ⟨ch,rfl,hS,F⟩)⟩
   ·have H64:=Z h64;clear h64;go_wp2_with fail;refine nC (ak c _ (at62) false _ E64.st) E64 (fun _ _ p=>?_) (fun w65 at65 k65 f65 l65 t65 n65 ka65 kn65 kc65 HG65 HL65 E65=>?_)
    ·go_wp2_with fail;exact⟨rfl,.inr p⟩
    have I65:=Z (IP.sym I62 (by have:=E65.st.lt;omega) (by decide) (by decide) (by decide) HG65);go_wp2_with (refine aB E65 (E65.sm (by have:=HL56.out;have:=HL60.out;have:=HL62.out;have:=HL65.out;simp at*;omega)) (by simp) (by decide) rfl rfl ?_;intro v66 w66 E66);refine Z ?_;go_wp2_with fail;refine nC (bK c (at65) false _ E66.st) E66 (fun _ _ p=>?_) (fun w67 at67 k67 f67 l67 t67 n67 ka67 kn67 kc67 HG67 HL67 E67=>?_)
    ·go_wp2_with fail;exact⟨rfl,.inr p⟩
    have I67:=Z (IP.whole I65 (by have:=E67.st.lt;omega) HG67);go_wp2_with (refine aB E67 (E67.sm (by have:=HL56.out;have:=HL60.out;have:=HL62.out;have:=HL65.out;have:=HL67.out;simp at*;omega)) (by simp) (by decide) rfl rfl ?_;intro v68 w68 E68);refine Z ?_;go_wp2_with fail;refine(aW c w.heap.size _ _ (by simp) (at67) false _ E68.st E68.k1 E68.bp0 E68.bt0 E68.fr.size (by have:=HL56.out;have:=HL60.out;have:=HL62.out;have:=HL65.out;have:=HL67.out;simp at*;omega)).mono ?_;rintro e w69 (⟨at69,v69,l69,rfl,hP,hO,hN,F,hS,hlt,hlen,hG⟩|⟨ch,rfl,hS,F⟩);rotate_left
    ·go_wp2_with fail;exact⟨rfl,.inr (E68.lpan hS F)⟩
    have HG69:=Z hG;have HL69:=Z hlt;have HM69:=Z hlen;have HN69:=Z hN;have E69:=Z (E68.lst hP hO F hS);clear hP hO hN F hS hlt hlen hG;go_wp2_with fail;have I69:=Z (I67.comp HL69 HG69);refine nC (ak c _ (at69) false _ E69.st) E69 (fun _ _ p=>?_) (fun w70 at70 k70 f70 l70 t70 n70 ka70 kn70 kc70 HG70 HL70 E70=>?_)
    ·go_wp2_with fail;exact⟨rfl,.inr p⟩
    have I70:=Z (IP.semi I69 (by have:=E70.st.lt;omega) HG70);go_wp2_with (refine aB E70 (E70.sm (by have:=HM69.out;have:=HL70.out;omega)) (by simp) (by decide) rfl rfl ?_;intro v71 w71 E71);refine Z ?_;go_wp2_with fail;obtain⟨g72,kc72,hv,-,-,-⟩:=E71.k1.big (by simp);subst hv;refine kC (node_any w.heap.size 11 _ _ _ E71.k1 (by simp) (E71.sm (by have:=HM69.out;have:=HL70.out;simp;omega))) E71 (fun w72 E72=>?_);have hlt:at_<at70:=by have:=HL56.out;have:=HL60.out;have:=HL62.out;have:=HL65.out;have:=HL67.out;have:=HL69.out;have:=HL70.out;omega
    go_wp2_with (refine aw E72.z1 rfl rfl rfl ?_);exact aS E72 hlt (I70.el hlt) rfl rfl rfl
  ·have H59:=Z h59;clear h59;go_wp2_with fail;refine(fx c at56 w _ _ _ _ _ E59.out (by have:=HL56.out;simp;omega) (fun a w' ha hs=>HE.out a w' (by have:=HL56.out;omega) hs)).mono ?_;rintro e w73 (⟨at73,k73,f73,l73,t73,n73,ka73,kn73,kc73,rfl,hE,hlt,hG⟩|⟨ch,rfl,hS,F⟩);rotate_left
   ·go_wp2_with fail;exact⟨rfl,.inr ⟨ch,rfl,hS,F⟩⟩
   have E73:=Z hE;have HL73:=Z hlt;have HG73:=Z hG;clear hE hlt hG;have hlt:at_<at73:=by have:=HL56.out;have:=HL73.out;omega
   have ip:=HG73 at_ (by have:=HL56.out;omega) true I56.out;go_wp2_with (refine aw E73.z1 rfl rfl rfl ?_);exact aS E73 hlt (ip.el hlt) rfl rfl rfl
theorem d8(c:PC)(label:Bool)(at_:Nat)(w:World)(h:PSt c at_ false w)(hel:jO c (at_+1)):
  Calls prog 89 #[.pointer (some ⟨c.bp,0,none⟩),.bool label] w (NPost c at_ false w (pR c at_)):=by
 cases label
 ·exact ny c at_ w h hel
 ·exact oz c at_ w h hel
end Go.Proofs.YtnclklfhjbkjhaaGreatDoor
