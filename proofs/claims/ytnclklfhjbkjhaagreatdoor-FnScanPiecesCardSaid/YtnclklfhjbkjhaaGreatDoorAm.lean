/- Part of the proof: C9. -/
import Derived.Test.YtnclklfhjbkjhaaGreatDoorAl
set_option maxRecDepth 1000000
set_option maxHeartbeats 40000000
set_option linter.unusedSimpArgs false
namespace Go.Proofs.YtnclklfhjbkjhaaGreatDoor
open Tryz
open Go.RowKit
def PEnd(c:PC)(at_:Nat)(mild:Bool)(w:World):Prop:=w.heap[c.bp]? =some (.cells #[.slice (some ⟨c.bt,0,none⟩) c.ts.length c.cap,.int .i64 at_,.int .i64 0,.bool mild] 51 (0,0))
theorem PEnd.keep{c:PC}{at_:Nat}{mild:Bool}{w w':World}(h:PEnd c at_ mild w)(k:Keep w w'):PEnd c at_ mild w':=k.blk h
theorem PSt.moveEnd{c:PC}{at_:Nat}{mild:Bool}{w:World}(h:PSt c at_ mild w):PEnd c (at_+1) mild (w.setCell ⟨c.bp,1,none⟩ (.int .i64 ((at_+1:Nat):Int))):=by
 unfold PEnd;rw[ag h.blk];rfl
theorem jk(c:PC)(kind:Int)(at_:Nat)(mild:Bool)(w:World)(h:PSt c at_ mild w):
  Calls prog 26 #[.pointer (some ⟨c.bp,0,none⟩),.int .i64 kind] w fun e w'=>
   e= .returned (.agg #[.int .i64 kind,.int .i64 at_,.int .i64 at_,.string (au (tk c.ts at_)),.int .u64 (tk c.ts at_).num,.slice none 0 0])∧PEnd c (at_+1) mild w'∧Fr (· =c.bp) w w':=by
 have HP:=Z h;obtain⟨hb,hbt,hat,hsm,c0,c1,-,-,f1,-,-,d0,d1,d2,d3,d4⟩:=h.facts;have HT:Hid (tk c.ts at_=tk c.ts at_):=rfl;clear h;generalize ht:tk c.ts at_=t at d0 d1 d2 d3 d4 ⊢;have HT2:=Z ht;clear ht;obtain⟨k,raw,val,num,item⟩:=t;have hb1:c.bp<w.heap.size+1:=by omega
 have hb2:c.bp<w.heap.size+2:=by omega
 have hb3:c.bp<w.heap.size+3:=by omega
 go_enter func26,ntmps26;go_wp2;go_region;go_wp2;go_region_held3 (fun w'=>w'.cell? ⟨c.bp,1,none⟩=some (.int .i64 at_)∧w'.cell? ⟨w.heap.size+1,1,none⟩=some (.string raw)∧w'.cell? ⟨w.heap.size+1,3,none⟩=some (.int .u64 num)) ((repeat' with_reducible apply And.intro)<;>first|((repeat(with_reducible(first|assumption|apply bP|apply aD)));done)|(go_keep;done)) (fail);go_wp2
 all_goals(refine qh (v:= .agg #[.int .i64 kind,.int .i64 at_,.int .i64 at_,.string (au ⟨k,raw,val,num,item⟩),.int .u64 num,.slice none 0 0]) ?_ rfl ?_)
 all_goals clear c0 c1 f1 d0 d1 d2 d3 d4 hb1 hb2 hb3 HT
 all_goals first
  |(refine⟨rfl,PEnd.keep (PSt.moveEnd HP) ?_,?_⟩
    ·repeat(first|exact Fr.refl _|with_reducible apply Fr.drew|with_reducible apply Fr.alloc)
    ·repeat(first|exact Fr.refl _|with_reducible apply Fr.drew|with_reducible apply Fr.alloc|with_reducible refine Fr.setIn ?_ _ rfl))
  |skip
 all_goals simp_all [results,results26,go_sem,au]
theorem KOwn.mono{B B':Nat}{w:World}{v:Value}{l:List Nd}(h:KOwn B w v l)(hb:B'≤B):KOwn B' w v l:=by
 refine⟨h.1,?_⟩;rcases h.2 with e|⟨g,cap,cur,h1,h2,h3⟩
 ·exact .inl e
 ·exact .inr ⟨g,cap,cur,h1,Nat.le_trans hb h2,h3⟩
def TopD.mem:TopD→Bool
 | .other=>false
 |_=>true
theorem TopK.mono{w:World}{B B':Nat}{k:Int}{v:Value}{d:TopD}(h:TopK w B k v d)(hb:B'≤B):TopK w B' k v d:=by
 cases d with
 |other=>exact h
 |pkg t=>obtain⟨h1,l,x,h2,h3⟩:=h;exact⟨h1,l,x,h2.mono hb,h3⟩
 |imp p u q=>obtain⟨h1,l,x,y,h2,h3⟩:=h;exact⟨h1,l,x,y,h2.mono hb,h3⟩
theorem TopK.kept{w w':World}{B:Nat}{k:Int}{v:Value}{d:TopD}{S:Nat→Prop}(h:TopK w B k v d)(f:Fr S w w')(hs:d.mem=true→∀g,v.ownBlock=some g→¬S g):TopK w' B k v d:=by
 cases d with
 |other=>exact h
 |pkg t=>obtain⟨h1,l,x,h2,h3⟩:=h;exact⟨h1,l,x,h2.kept f (hs rfl),h3⟩
 |imp p u q=>obtain⟨h1,l,x,y,h2,h3⟩:=h;exact⟨h1,l,x,y,h2.kept f (hs rfl),h3⟩
theorem TopK.lt{w:World}{B:Nat}{k:Int}{v:Value}{d:TopD}(h:TopK w B k v d)(hm:d.mem=true){g:Nat}(hg:v.ownBlock=some g):B≤g∧g<w.heap.size:=by
 cases d with
 |other=>cases hm
 |pkg t=>obtain⟨h1,l,x,h2,h3⟩:=h;exact h2.lt hg
 |imp p u q=>obtain⟨h1,l,x,y,h2,h3⟩:=h;exact h2.lt hg
inductive TKs(w:World)(B:Nat)(u:Value):List Nd→List TopD→Prop where
 |nil:TKs w B u [] []
 |snoc {l:List Nd} {ds:List TopD} {x:Nd} {d:TopD}:TKs w B u l ds→TopK w B x.kind (.slice x.ka x.kn x.kc) d→(d.mem=true→∀g,(Value.slice x.ka x.kn x.kc).ownBlock=some g→u.ownBlock≠some g)→TKs w B u (l++ [x]) (ds++ [d])
theorem TKs.kept{w w':World}{B:Nat}{u:Value}{l:List Nd}{ds:List TopD}{S:Nat→Prop}(h:TKs w B u l ds)(f:Fr S w w')(hs:∀g,B≤g→u.ownBlock≠some g→¬S g):TKs w' B u l ds:=by
 induction h with
 |nil=>exact .nil
 |snoc _ hk hd ih=>exact .snoc ih (hk.kept f fun hm g hg=>hs g (hk.lt hm hg).1 (hd hm g hg)) hd
theorem TKs.grown{w w':World}{B:Nat}{u u':Value}{l:List Nd}{ds:List TopD}(h:TKs w B u l ds)(f:Fr (fun k=>u.ownBlock=some k) w w')(s:OwnStep w u u'):TKs w' B u' l ds:=by
 induction h with
 |nil=>exact .nil
 |snoc _ hk hd ih=>
  refine .snoc ih (hk.kept f fun hm g hg=>hd hm g hg) fun hm g hg e=>?_
  rcases s g e with h1|h1
  ·exact hd hm g hg h1
  ·have:=(hk.lt hm hg).2;omega
theorem TKs.push{w w':World}{B B1:Nat}{u u':Value}{l:List Nd}{ds:List TopD}{x:Nd}{d:TopD}(T:TKs w B u l ds)(hK:TopK w B1 x.kind (.slice x.ka x.kn x.kc) d)(hB:B≤B1)(hu:∀g,u.ownBlock=some g→g<B1)
  (f:Fr (fun k=>u.ownBlock=some k) w w') (s:OwnStep w u u'):TKs w' B u' (l++ [x]) (ds++ [d]):=by
 refine .snoc (T.grown f s) ((hK.mono hB).kept f fun hm g hg e=>?_) fun hm g hg e=>?_
 ·have:=(hK.lt hm hg).1;have:=hu g e;omega
 ·rcases s g e with h1|h1
  ·have:=(hK.lt hm hg).1;have:=hu g h1;omega
  ·have:=(hK.lt hm hg).2;omega
theorem Fr.row(w:World)(b:Nat)(cs:Array Value):Fr (· =b) w (w.setRow b cs):=⟨rfl,rfl,rfl,by simp,fun k _ hk=>setRow_other w b k cs hk⟩
def za(c:PC)(w:World)(e:Ending)(w':World):Prop:=
 (∃f l t n ka kn kc at',e= .returned (.agg #[.int .i64 1,.int .i64 f,.int .i64 l,.string t,.int .u64 n,.slice ka kn kc])∧PEnd c at' false w'∧Fr (· =c.bp) w w'∧
  ∃ds ks x v,FSeg c 0 (c.ts.length-1) ds∧KOwn w.heap.size w' (.slice ka kn kc) (ks++ [x])∧x.kind=39∧TKs w' (w.heap.size+1) v ks ds)∨PPost c w e w'
theorem ze{t:Tk}{s s':ByteArray}(h:aH t s=true)(hs:(s.toList==s'.toList)=false):aH t s'=false:=by
 cases e:aH t s' with
 |false=>rfl
 |true=>
  have:=(dF h).symm.trans (dF e);rw[this] at hs;simp at hs
theorem sY(c:PC)(w:World)(h:PSt c 0 false w)(hend:∀i,i+1<c.ts.length→(tk c.ts i).kind≠6):Calls prog 15 #[.pointer (some ⟨c.bp,0,none⟩)] w (za c w):=by
 have E0:=Z (Env.start h);have HEND:=Z hend;clear h hend;go_enter func15,ntmps15;go_wp2_with fail;have E1:=Z (E0.allocZ);have E2:=Z (E1.addNil);refine bO E2 (fun w3 E3=>?_);cases h3:aH (tk c.ts (0)) {data:=#[115,121,110,116,97,120]}
 case' true=>
  have H3:=Z h3;clear h3;go_wp2_with fail;refine nC (gY c (0) false _ E3.st) E3 (fun _ _ p=>?_) (fun w7 at7 k7 f7 l7 t7 n7 ka7 kn7 kc7 HG7 HL7 E7=>?_)
  ·go_wp2_with fail;exact⟨rfl,.inr p⟩
  go_wp2_with (refine aB E7 (by simp) (by simp) (by decide) rfl rfl ?_;intro v8 w8 E8);refine Z ?_;go_wp2_with fail
 case' false=>
  have H3:=Z h3;clear h3;go_wp2_with fail;refine bO E3 (fun w4 E4=>?_);cases h4:aH (tk c.ts (0)) {data:=#[101,100,105,116,105,111,110]}
  case' true=>
   have H4:=Z h4;clear h4;go_wp2_with fail;refine nC (gY c (0) false _ E4.st) E4 (fun _ _ p=>?_) (fun w5 fS k5 f5 l5 t5 n5 ka5 kn5 kc5 HG5 HL5 E5=>?_)
   ·go_wp2_with fail;exact⟨rfl,.inr p⟩
   go_wp2_with (refine aB E5 (by simp) (by simp) (by decide) rfl rfl ?_;intro v6 w6 E6);refine Z ?_;go_wp2_with fail
  case' false=>
   have H4:=Z h4;clear h4;go_wp2_with fail
 all_goals
  go_loopw [3,4] (fun u v wr=>∃ (a:Nat) (l:List Nd) (ds:List TopD) (b:Bool),v= .bool b∧Hid (Env c a false w [(w.heap.size,#[.int .i64 0,.int .i64 0,.int .i64 0,.string ⟨#[]⟩,.int .u64 0,.slice none 0 0])] [(u,l)] wr)∧Hid (FSeg c 0 a ds∧TKs wr (w.heap.size+1) u l ds∧l.length≤a)) (fun _ _ wr=>c.ts.length-gT c wr)
  case atStart=>first|exact⟨_,_,[],false,rfl,E4,Z ⟨.nil,.nil,by simp⟩⟩|exact⟨_,_,[.other],false,rfl,E6,Z ⟨.snoc .nil HG5.1,.snoc (l:=[]) .nil HG5.2 (fun h=>by cases h),by have:=HL5.out;simp;omega⟩⟩|exact⟨_,_,[.other],false,rfl,E8,Z ⟨.snoc .nil HG7.1,.snoc (l:=[]) .nil HG7.2 (fun h=>by cases h),by have:=HL7.out;simp;omega⟩⟩
  case round=>
   obtain⟨a,l,ds,b,rfl,E,HR⟩:=hrel;obtain⟨-,-,hat,-,c0,c1,-,-,-,-,-,d0,-,-,-,-⟩:=E.st.facts;by_cases hk:(tk c.ts a).kind=6;rotate_left
   ·have hk':((tk c.ts a).kind !=6)=true:=by simp[hk]
    go_wp2_with fail;go_quiet (fail);have Ea:=Z (E.keep ((Fr.refl wr).drewN nq));clear c0 c1 d0 hk' hat hk;go_wp2_with fail;refine(t_ c a _ Ea.st).mono ?_;rintro e w21 (⟨at21,kt,ft,lt_,tt,nt,kat,knt,kct,rfl,hP,F,hlt,hG⟩|⟨ch,rfl,hS,F⟩);rotate_left
    ·go_wp2_with fail;exact⟨rfl,.inr (Ea.pan ⟨ch,rfl,hS,F⟩)⟩
    obtain⟨d,hT,hK⟩:=hG;have hu:∀g,u3.ownBlock=some g→g< (wr.drewN nq).heap.size:=fun g hg=>(Ea.k1.lt hg).2
    have T1:TKs (w21.alloc (.cells #[.int .i64 kt,.int .i64 ft,.int .i64 lt_,.string tt,.int .u64 nt,.slice kat knt kct] 26)) (w.heap.size+1) u3 l ds:=(((HR.2.1.kept (S:=fun _=>False) ((Fr.refl wr).drewN nq) (fun _ _ _ e=>e)).kept F (fun g hg _ e=>by have:=Ea.bp0;omega)).kept (S:=fun _=>False) ((Fr.refl w21).alloc _) (fun _ _ _ e=>e));have K1:TopK (w21.alloc (.cells #[.int .i64 kt,.int .i64 ft,.int .i64 lt_,.string tt,.int .u64 nt,.slice kat knt kct] 26)) (wr.drewN nq).heap.size kt (.slice kat knt kct) d:=hK.kept (S:=fun _=>False) ((Fr.refl w21).alloc _) (fun _ _ _ e=>e);have HT1:=Z T1;have HK1:=Z K1;have HTT:=Z hT;have HU:=Z hu;have HLT:=Z hlt;have HBB:=Z (show w.heap.size+1≤(wr.drewN nq).heap.size from af Ea.z1);have Eb:=Z ((Ea.call hP F).alloc #[.int .i64 kt,.int .i64 ft,.int .i64 lt_,.string tt,.int .u64 nt,.slice kat knt kct]);clear hP F hlt hT hK hu T1 K1;cases b
    ·go_wp2_with (first|(refine yi Eb.z1 (i:=0) rfl rfl (.inr (.inr rfl)) ?_)|(refine cE Eb.z1 rfl ?_)|(refine app1 Eb.k1 Eb.fr.size (Eb.sm (by have:=HR.2.2;have:=HLT.out;omega)) (by simp[Act.put]) (by decide) rfl rfl ?_;intro v2 w22 o2 f2 s2;refine Hid.out ?_));refine Z ?_;have Ec:=Z ((Eb.grow o2 f2 s2).dropB);have TT:=Z (TKs.push (x:=Nd.mk kt ft lt_ tt nt kat knt kct) HT1 HK1 HBB HU f2 s2);clear o2 f2 s2;go_wp2_with fail;go_roundw
     case rel=>exact⟨at21,_,_,_,rfl,Ec,Z ⟨.snoc HR.1 HTT.out,TT.out,by have:=HR.2.2;have:=HLT.out;simp;omega⟩⟩
     case measure=>
      have e1:=aE E.st;have e2:=aE Ec.st;have:=HLT.out;have:=Ec.st.lt;rw[e1,e2];omega
    ·go_wp2_with (first|(refine yi Eb.z1 (i:=0) rfl rfl (.inr (.inr rfl)) ?_)|(refine cE Eb.z1 rfl ?_)|(refine app1 Eb.k1 Eb.fr.size (Eb.sm (by have:=HR.2.2;have:=HLT.out;omega)) (by simp[Act.put]) (by decide) rfl rfl ?_;intro v2 w22 o2 f2 s2;refine Hid.out ?_));refine Z ?_;have Ec:=Z ((Eb.grow o2 f2 s2).dropB);have TT:=Z (TKs.push (x:=Nd.mk kt ft lt_ tt nt kat knt kct) HT1 HK1 HBB HU f2 s2);clear o2 f2 s2;go_wp2_with fail;go_roundw
     case rel=>exact⟨at21,_,_,_,rfl,Ec,Z ⟨.snoc HR.1 HTT.out,TT.out,by have:=HR.2.2;have:=HLT.out;simp;omega⟩⟩
     case measure=>
      have e1:=aE E.st;have e2:=aE Ec.st;have:=HLT.out;have:=Ec.st.lt;rw[e1,e2];omega
   ·have hk':((tk c.ts a).kind !=6)=false:=by simp[hk]
    go_wp2_with fail;go_quiet (fail);have Ea:=Z (E.keep ((Fr.refl wr).drewN nq));have HE6:=Z (show a+1=c.ts.length from by
     rcases Nat.lt_or_ge (a+1) c.ts.length with h|h
     ·exact absurd hk (HEND a h)
     ·have:=E.st.lt;omega)
    have T1:=Z (HR.2.1.kept (S:=fun _=>False) ((Fr.refl wr).drewN nq) (fun _ _ _ e=>e));clear c0 c1 d0 hk' hat hk;cases b
    ·rcases l.eq_nil_or_concat with hl|⟨l',x',hl⟩
     ·obtain⟨ka,kc,hv,-⟩:=Ea.k1.form;subst hl;rw[show([]:List Nd).length=0 from rfl] at hv;subst hv;go_wp2_with fail;refine(jk c 39 a false _ Ea.st).mono ?_;rintro e w2 ⟨rfl,hE,F⟩;have HEE:=Z hE;have HF:=Z (Ea.fr.trans F);have K2:=Z (((Ea.k1.kept F (fun g hg e=>by have:=(Ea.k1.lt hg).1;have:=Ea.bp0;omega))).keep ((Fr.refl w2).alloc (.cells #[.int .i64 39,.int .i64 a,.int .i64 a,.string (au (tk c.ts a)),.int .u64 (tk c.ts a).num,.slice none 0 0] 26)));have Z2:=Z (Keep.blk ((Fr.refl w2).alloc (.cells #[.int .i64 39,.int .i64 a,.int .i64 a,.string (au (tk c.ts a)),.int .u64 (tk c.ts a).num,.slice none 0 0] 26)) (F.blk (fun e=>by have:=Ea.bp0;omega) Ea.z1));have D2:=Z (show ∀g,(Value.slice ka 0 kc).ownBlock=some g→g≠w.heap.size from fun g hg e=>Ea.d11 (by rw[hg,e]));have T2:=Z ((T1.kept F (fun g hg _ e=>by have:=Ea.bp0;omega)).kept (S:=fun _=>False) ((Fr.refl w2).alloc (.cells #[.int .i64 39,.int .i64 a,.int .i64 a,.string (au (tk c.ts a)),.int .u64 (tk c.ts a).num,.slice none 0 0] 26)) (fun _ _ _ e=>e));have HSZ:=Z (show w.heap.size≤(w2.alloc (.cells #[.int .i64 39,.int .i64 a,.int .i64 a,.string (au (tk c.ts a)),.int .u64 (tk c.ts a).num,.slice none 0 0] 26)).heap.size from by have:=HF.size;simp;omega);clear hE F;go_wp2_with (first|(refine cE (ql w2 _) rfl ?_)|(refine app1 K2.out HSZ.out (Ea.sm HR.2.2) (by simp[Act.put]) (by decide) rfl rfl ?_;intro v2 w22 o2 f2 s2;refine Hid.out ?_));refine Z ?_;have K3:=Z o2;have hvb:∀g,(Value.slice ka 0 kc).ownBlock=some g→w.heap.size≤g:=fun g hg=>(K2.lt hg).1
      have Z3:=Z (f2.blk (fun e=>D2 _ e rfl) Z2);have T3:=Z (T2.grown f2 s2);have P3:=Z (f2.blk (fun e=>by have:=hvb _ e;have:=Ea.bp0;omega) (HEE.keep ((Fr.refl w2).alloc _)));have F3:=Z ((HF.alloc (.cells #[.int .i64 39,.int .i64 a,.int .i64 a,.string (au (tk c.ts a)),.int .u64 (tk c.ts a).num,.slice none 0 0] 26)).andThen f2 (fun i hi e=>by have:=hvb _ e;omega));have D3:=Z (show ∀g,v2.ownBlock=some g→g≠w.heap.size from fun g hg e=>by
       rcases s2 g hg with h|h
       ·exact D2 g h e
       ·have h:=HF.size;simp at*;omega)
      clear o2 f2 s2 hvb;go_wp2_with fail;obtain⟨g9,k9,h9,-,-,-⟩:=K3.big (by simp);generalize(([]:List Nd) ++ [Nd.mk 39 a a (au (tk c.ts a)) (tk c.ts a).num none 0 0]).length=n9 at h9;subst h9;refine(node_any w.heap.size 1 _ _ _ K3.out (by simp) (by have h2:=HR.2.2;have h3:=Ea.st.lt;have h4:=c.small;rw[qk,List.length_singleton];omega)).mono ?_;rintro e w23 ⟨rfl,kk⟩;have Z4:=Z (kk.blk Z3);have P4:=Z (kk.blk P3);have F4:=Z (F3.keep kk);have K4:=Z (K3.keep kk);have T4:=Z (T3.kept (S:=fun _=>False) kk (fun _ _ _ e=>e));clear kk;go_wp2_with (refine aw Z4 rfl rfl rfl ?_);refine qh (aN rfl (setRow_heap _ _ _ _ _ _ Z4) rfl) rfl ?_;refine .inl ⟨_,_,_,_,_,_,_,a+1,rfl,(setRow_other _ _ _ _ (fun e=>by have:=Ea.bp0;omega)).trans P4,F4.setRow _ _ qr,ds,([]:List Nd),Nd.mk 39 a a (au (tk c.ts a)) (tk c.ts a).num none 0 0,.slice (some ⟨g9,0,none⟩) n9 k9,?_,K4.kept (S:=(· =w.heap.size)) (Fr.row _ _ _) (fun g hg=>D3 g hg),rfl,T4.kept (S:=(· =w.heap.size)) (Fr.row _ _ _) (fun g hg _ e=>by omega)⟩;rw[show c.ts.length-1=a from by have:=HE6.out;omega];exact HR.1
     ·rw[List.concat_eq_append] at hl;obtain⟨gv,kc,hv,-,-,-⟩:=Ea.k1.big (by rw[hl];simp);subst hl;rw[show(l'++ [x']).length=l'.length+1 from by simp] at hv;subst hv;have hw:wrap64 (l'.length:Int)=(l'.length:Int):=by
       have:=Ea.sm HR.2.2;simp at this;unfold wrap64;omega
      have q0:wr.cell? ⟨gv,l'.length*6,none⟩=some (.int .i64 x'.kind):=by
       refine Eq.trans (b:=x'.cells[0]?) ?_ rfl;have:=Ea.k1.cell l'.length (by simp) 0 (by omega);simpa using this
      cases hb:(x'.kind==25)
      ·go_wp2_with fail;clear hw q0 hb;refine(jk c 39 a false _ Ea.st).mono ?_;rintro e w2 ⟨rfl,hE,F⟩;have HEE:=Z hE;have HF:=Z (Ea.fr.trans F);have K2:=Z (((Ea.k1.kept F (fun g hg e=>by have:=(Ea.k1.lt hg).1;have:=Ea.bp0;omega))).keep ((Fr.refl w2).alloc (.cells #[.int .i64 39,.int .i64 a,.int .i64 a,.string (au (tk c.ts a)),.int .u64 (tk c.ts a).num,.slice none 0 0] 26)));have Z2:=Z (Keep.blk ((Fr.refl w2).alloc (.cells #[.int .i64 39,.int .i64 a,.int .i64 a,.string (au (tk c.ts a)),.int .u64 (tk c.ts a).num,.slice none 0 0] 26)) (F.blk (fun e=>by have:=Ea.bp0;omega) Ea.z1));have D2:=Z (show ∀g,(Value.slice (some ⟨gv,0,none⟩) (l'.length+1) kc).ownBlock=some g→g≠w.heap.size from fun g hg e=>Ea.d11 (by rw[hg,e]));have T2:=Z ((T1.kept F (fun g hg _ e=>by have:=Ea.bp0;omega)).kept (S:=fun _=>False) ((Fr.refl w2).alloc (.cells #[.int .i64 39,.int .i64 a,.int .i64 a,.string (au (tk c.ts a)),.int .u64 (tk c.ts a).num,.slice none 0 0] 26)) (fun _ _ _ e=>e));have HSZ:=Z (show w.heap.size≤(w2.alloc (.cells #[.int .i64 39,.int .i64 a,.int .i64 a,.string (au (tk c.ts a)),.int .u64 (tk c.ts a).num,.slice none 0 0] 26)).heap.size from by have:=HF.size;simp;omega);clear hE F;go_wp2_with (first|(refine cE (ql w2 _) rfl ?_)|(refine app1 K2.out HSZ.out (Ea.sm HR.2.2) (by simp[Act.put]) (by decide) rfl rfl ?_;intro v2 w22 o2 f2 s2;refine Hid.out ?_));refine Z ?_;have K3:=Z o2;have hvb:∀g,(Value.slice (some ⟨gv,0,none⟩) (l'.length+1) kc).ownBlock=some g→w.heap.size≤g:=fun g hg=>(K2.lt hg).1
       have Z3:=Z (f2.blk (fun e=>D2 _ e rfl) Z2);have T3:=Z (T2.grown f2 s2);have P3:=Z (f2.blk (fun e=>by have:=hvb _ e;have:=Ea.bp0;omega) (HEE.keep ((Fr.refl w2).alloc _)));have F3:=Z ((HF.alloc (.cells #[.int .i64 39,.int .i64 a,.int .i64 a,.string (au (tk c.ts a)),.int .u64 (tk c.ts a).num,.slice none 0 0] 26)).andThen f2 (fun i hi e=>by have:=hvb _ e;omega));have D3:=Z (show ∀g,v2.ownBlock=some g→g≠w.heap.size from fun g hg e=>by
        rcases s2 g hg with h|h
        ·exact D2 g h e
        ·have h:=HF.size;simp at*;omega)
       clear o2 f2 s2 hvb;go_wp2_with fail;obtain⟨g9,k9,h9,-,-,-⟩:=K3.big (by simp);generalize((l'++ [x']) ++ [Nd.mk 39 a a (au (tk c.ts a)) (tk c.ts a).num none 0 0]).length=n9 at h9;subst h9;refine(node_any w.heap.size 1 _ _ _ K3.out (by simp) (by have h2:=HR.2.2;have h3:=Ea.st.lt;have h4:=c.small;rw[qk,List.length_singleton];omega)).mono ?_;rintro e w23 ⟨rfl,kk⟩;have Z4:=Z (kk.blk Z3);have P4:=Z (kk.blk P3);have F4:=Z (F3.keep kk);have K4:=Z (K3.keep kk);have T4:=Z (T3.kept (S:=fun _=>False) kk (fun _ _ _ e=>e));clear kk;go_wp2_with (refine aw Z4 rfl rfl rfl ?_);refine qh (aN rfl (setRow_heap _ _ _ _ _ _ Z4) rfl) rfl ?_;refine .inl ⟨_,_,_,_,_,_,_,a+1,rfl,(setRow_other _ _ _ _ (fun e=>by have:=Ea.bp0;omega)).trans P4,F4.setRow _ _ qr,ds,(l'++ [x']),Nd.mk 39 a a (au (tk c.ts a)) (tk c.ts a).num none 0 0,.slice (some ⟨g9,0,none⟩) n9 k9,?_,K4.kept (S:=(· =w.heap.size)) (Fr.row _ _ _) (fun g hg=>D3 g hg),rfl,T4.kept (S:=(· =w.heap.size)) (Fr.row _ _ _) (fun g hg _ e=>by omega)⟩;rw[show c.ts.length-1=a from by have:=HE6.out;omega];exact HR.1
      ·go_wp2_with fail;clear hw q0 hb;refine(ap c (a) false _ Ea.st).mono ?_;rintro e wq ⟨ch,rfl,hS,F⟩;go_wp2_with fail;exact⟨rfl,.inr (Ea.pan ⟨ch,rfl,hS,F⟩)⟩
    ·go_wp2_with fail;refine(jk c 39 a false _ Ea.st).mono ?_;rintro e w2 ⟨rfl,hE,F⟩;have HEE:=Z hE;have HF:=Z (Ea.fr.trans F);have K2:=Z (((Ea.k1.kept F (fun g hg e=>by have:=(Ea.k1.lt hg).1;have:=Ea.bp0;omega))).keep ((Fr.refl w2).alloc (.cells #[.int .i64 39,.int .i64 a,.int .i64 a,.string (au (tk c.ts a)),.int .u64 (tk c.ts a).num,.slice none 0 0] 26)));have Z2:=Z (Keep.blk ((Fr.refl w2).alloc (.cells #[.int .i64 39,.int .i64 a,.int .i64 a,.string (au (tk c.ts a)),.int .u64 (tk c.ts a).num,.slice none 0 0] 26)) (F.blk (fun e=>by have:=Ea.bp0;omega) Ea.z1));have D2:=Z (show ∀g,(u3).ownBlock=some g→g≠w.heap.size from fun g hg e=>Ea.d11 (by rw[hg,e]));have T2:=Z ((T1.kept F (fun g hg _ e=>by have:=Ea.bp0;omega)).kept (S:=fun _=>False) ((Fr.refl w2).alloc (.cells #[.int .i64 39,.int .i64 a,.int .i64 a,.string (au (tk c.ts a)),.int .u64 (tk c.ts a).num,.slice none 0 0] 26)) (fun _ _ _ e=>e));have HSZ:=Z (show w.heap.size≤(w2.alloc (.cells #[.int .i64 39,.int .i64 a,.int .i64 a,.string (au (tk c.ts a)),.int .u64 (tk c.ts a).num,.slice none 0 0] 26)).heap.size from by have:=HF.size;simp;omega);clear hE F;go_wp2_with (first|(refine cE (ql w2 _) rfl ?_)|(refine app1 K2.out HSZ.out (Ea.sm HR.2.2) (by simp[Act.put]) (by decide) rfl rfl ?_;intro v2 w22 o2 f2 s2;refine Hid.out ?_));refine Z ?_;have K3:=Z o2;have hvb:∀g,(u3).ownBlock=some g→w.heap.size≤g:=fun g hg=>(K2.lt hg).1
     have Z3:=Z (f2.blk (fun e=>D2 _ e rfl) Z2);have T3:=Z (T2.grown f2 s2);have P3:=Z (f2.blk (fun e=>by have:=hvb _ e;have:=Ea.bp0;omega) (HEE.keep ((Fr.refl w2).alloc _)));have F3:=Z ((HF.alloc (.cells #[.int .i64 39,.int .i64 a,.int .i64 a,.string (au (tk c.ts a)),.int .u64 (tk c.ts a).num,.slice none 0 0] 26)).andThen f2 (fun i hi e=>by have:=hvb _ e;omega));have D3:=Z (show ∀g,v2.ownBlock=some g→g≠w.heap.size from fun g hg e=>by
      rcases s2 g hg with h|h
      ·exact D2 g h e
      ·have h:=HF.size;simp at*;omega)
     clear o2 f2 s2 hvb;go_wp2_with fail;obtain⟨g9,k9,h9,-,-,-⟩:=K3.big (by simp);generalize(l++ [Nd.mk 39 a a (au (tk c.ts a)) (tk c.ts a).num none 0 0]).length=n9 at h9;subst h9;refine(node_any w.heap.size 1 _ _ _ K3.out (by simp) (by have h2:=HR.2.2;have h3:=Ea.st.lt;have h4:=c.small;rw[qk,List.length_singleton];omega)).mono ?_;rintro e w23 ⟨rfl,kk⟩;have Z4:=Z (kk.blk Z3);have P4:=Z (kk.blk P3);have F4:=Z (F3.keep kk);have K4:=Z (K3.keep kk);have T4:=Z (T3.kept (S:=fun _=>False) kk (fun _ _ _ e=>e));clear kk;go_wp2_with (refine aw Z4 rfl rfl rfl ?_);refine qh (aN rfl (setRow_heap _ _ _ _ _ _ Z4) rfl) rfl ?_;refine .inl ⟨_,_,_,_,_,_,_,a+1,rfl,(setRow_other _ _ _ _ (fun e=>by have:=Ea.bp0;omega)).trans P4,F4.setRow _ _ qr,ds,l,Nd.mk 39 a a (au (tk c.ts a)) (tk c.ts a).num none 0 0,.slice (some ⟨g9,0,none⟩) n9 k9,?_,K4.kept (S:=(· =w.heap.size)) (Fr.row _ _ _) (fun g hg=>D3 g hg),rfl,T4.kept (S:=(· =w.heap.size)) (Fr.row _ _ _) (fun g hg _ e=>by omega)⟩;rw[show c.ts.length-1=a from by have:=HE6.out;omega];exact HR.1
end Go.Proofs.YtnclklfhjbkjhaaGreatDoor
