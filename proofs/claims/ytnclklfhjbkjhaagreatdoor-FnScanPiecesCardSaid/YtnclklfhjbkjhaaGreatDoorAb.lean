/- Part of the proof: A6. -/
import Derived.Test.YtnclklfhjbkjhaaGreatDoorAa
set_option maxRecDepth 1000000
set_option maxHeartbeats 40000000
namespace Go.Proofs.YtnclklfhjbkjhaaGreatDoor
open Tryz
open Go.RowKit
inductive PSeg(ts:List Tk):Nat→Nat→List UInt8→Prop where
 |one {i:Nat}:(tk ts i).kind=1→PSeg ts i (i+1) (tk ts i).raw.toList
 |more {i j:Nat} {t:List UInt8}:PSeg ts i j t→aH (tk ts j) ⟨#[46]⟩=true→(tk ts (j+1)).kind=1→PSeg ts i (j+2) (t++ [46] ++ (tk ts (j+1)).raw.toList)
theorem xA{w:World}{b:Nat}{k f l n:Int}{tx:ByteArray}{ka:Option Addr}{kn kc:Nat}{fr:Nat×Nat}(z:w.heap[b]? =some (.cells #[.int .i64 k,.int .i64 f,.int .i64 l,.string tx,.int .u64 n,.slice ka kn kc] 26 fr)):
  ∀i (hi:i< [Nd.mk k f l tx n ka kn kc].length) j,j<6→w.cell? ⟨b,i*6+j,none⟩=([Nd.mk k f l tx n ka kn kc][i]).cells[j]? :=by
 intro i hi j hj;have hi0:i=0:=by simpa using hi
 subst hi0;rw[show 0*6+j=j from by omega,ab z j];simp[Nd.cells,Nd.arr]
theorem dR{ops:Array Oper}{Q:Exit→Act→World→Prop}{a:Act}{w:World}{K:Act→World→Prop}{E:Prop}{o:Oper}(hgd:o.guard=none)(s x:Operand)(ho:o.op= .call {callee:= .builtin .append,args:=#[s,x],argTypes:=#[24,24]})
  {B:Nat} {v:Value} {l:List Nd} (hs:a.eval s=v) (hown:KOwn B w v l) {k f l1 n:Int} {tx:ByteArray} {ka:Option Addr} {kn kc b:Nat} {fr:Nat×Nat}
  (z:w.heap[b]? =some (.cells #[.int .i64 k,.int .i64 f,.int .i64 l1,.string tx,.int .u64 n,.slice ka kn kc] 26 fr)) (hx:a.eval x= .slice (some ⟨b,0,none⟩) 1 1) (hsm:l.length≤1000000) (hB:B≤w.heap.size)
  (h:∀v' w',KOwn B w' v' (l++ [Nd.mk k f l1 tx n ka kn kc])→Fr (fun k=>v.ownBlock=some k) w w'→OwnStep w v v'→K (a.put o.dst v') w'):
  if Region.wanted o (yielded ops a.tmps)=true then Oper.wp prog o a w K Q else E:=
 stepApp hgd s x ho hs hown b [Nd.mk k f l1 tx n ka kn kc] (by simp) (m:=1) (c:=1) hx rfl (xA z) (by simp;omega) hB fun g kc w' h1 h2 h3=>h _ w' h1 h2 h3
theorem wG{ops:Array Oper}{rest:List Oper}{Q:Exit→Act→World→Prop}{a:Act}{w:World}{pos:String}{after:Array Edge}{ty:TypeId}{p v:Tmp}{g:Nat}{v0 v1 v2 v3 v4 v5:Value}{s:ByteArray}
  (z:w.heap[g]? =some (.cells #[v0,v1,v2,v3,v4,v5] 26 (0,0))) (hx:a.tmps.getD p undef= .pointer (some ⟨g,3,none⟩)) (hy:a.tmps.getD v undef= .string s)
  (next:wpList prog ops Q rest a (w.setRow g #[v0,v1,v2,.string s,v4,v5])):
  wpList prog ops Q ({dst:=none,op:= .store 9 (.tmp p) (.tmp v),type:=ty,pos:=pos,after:=after,guard:=none} ::rest) a w:=by
 refine wpList_plain rfl fun K hK=>?_
 have c3:w.cell? ⟨g,3,none⟩=some v3:=ab z 3;have f3:w.frozen? ⟨g,3,none⟩=false:=ae z 3;have hx':a.tmps[p]?.getD undef= .pointer (some ⟨g,3,none⟩):=by simpa using hx
 have hy':a.tmps[v]?.getD undef= .string s:=by simpa using hy
 have e:w.setCell ⟨g,3,none⟩ (.string s)=w.setRow g #[v0,v1,v2,.string s,v4,v5]:=by
  rw[setCell_eq_setRow w g 3 _ 26 (0,0) _ z];rfl
 unfold Oper.wp;simp[execOp,Act.eval,hx',hy',c3,f3,go_sem];rw[e];exact hK _ _ next
theorem zk{ops:Array Oper}{rest:List Oper}{Q:Exit→Act→World→Prop}{a:Act}{w:World}{pos:String}{after:Array Edge}{ty:TypeId}{p v:Tmp}{g:Nat}{v0 v1 v2 v3 v4 v5:Value}{n:Int}
  (z:w.heap[g]? =some (.cells #[v0,v1,v2,v3,v4,v5] 26 (0,0))) (hx:a.tmps.getD p undef= .pointer (some ⟨g,4,none⟩)) (hy:a.tmps.getD v undef= .int .u64 n)
  (next:wpList prog ops Q rest a (w.setRow g #[v0,v1,v2,v3,.int .u64 n,v5])):
  wpList prog ops Q ({dst:=none,op:= .store 23 (.tmp p) (.tmp v),type:=ty,pos:=pos,after:=after,guard:=none} ::rest) a w:=by
 refine wpList_plain rfl fun K hK=>?_
 have c3:w.cell? ⟨g,4,none⟩=some v4:=ab z 4;have f3:w.frozen? ⟨g,4,none⟩=false:=ae z 4;have hx':a.tmps[p]?.getD undef= .pointer (some ⟨g,4,none⟩):=by simpa using hx
 have hy':a.tmps[v]?.getD undef= .int .u64 n:=by simpa using hy
 have e:w.setCell ⟨g,4,none⟩ (.int .u64 n)=w.setRow g #[v0,v1,v2,v3,.int .u64 n,v5]:=by
  rw[setCell_eq_setRow w g 4 _ 26 (0,0) _ z];rfl
 unfold Oper.wp;simp[execOp,Act.eval,hx',hy',c3,f3,go_sem];rw[e];exact hK _ _ next
theorem cV(a b:ByteArray):(a++b).size=a.size+b.size:=ByteArray.size_append
theorem ed(a b:ByteArray):(a++b).toList=a.toList++b.toList:=by
 rw[qi,qi,qi];simp
theorem rm:({data:=#[46]}:ByteArray).toList=[46]:=qp [46]
def PathG(c:PC)(dot:Bool)(at_:Nat)(at':Nat)(_ _ _:Int)(t:ByteArray)(_:Int)(_:Value)(_:World):Prop:=
 PSeg c.ts at_ at' t.toList∨(dot=true∧aH (tk c.ts at_) ⟨#[46]⟩=true∧∃t',PSeg c.ts (at_+1) at' t')
def vV(c:PC)(at_ a:Nat)(s:ByteArray)(ns:List Nd)(x:ByteArray):Prop:=PSeg c.ts at_ a s.toList∧(ns.length=1→x.toList=s.toList)
def vU(c:PC)(at_ a:Nat)(_:ByteArray)(ns:List Nd)(_:ByteArray):Prop:=(∃t,PSeg c.ts (at_+1) a t)∧2≤ns.length
theorem rW(c:PC)(at_:Nat)(mild:Bool)(w:World)(h:PSt c at_ mild w)(b:Bool)(hd:b=true→aH (tk c.ts at_) ⟨#[46]⟩=false):
  Calls prog 51 #[.pointer (some ⟨c.bp,0,none⟩),.bool b] w (NPost c at_ mild w (PathG c b at_)):=by
 have E0:=Z (Env.start h);clear h;cases b
 case' false=>
  clear hd;go_enter func51,ntmps51;go_wp2_with fail;have E1:=Z ((E0.allocZ).addNil)
 case' true=>
  replace hd:=hd rfl
  go_enter func51,ntmps51;go_wp2_with fail;have Ez:=Z ((E0.allocZ).addNil);refine(bG c _ at_ mild _ Ez.st).mono ?_;rintro e w0 ⟨rfl,k0⟩;have E1:=Z (Ez.keep k0);clear k0 Ez;rw[hd];clear hd;go_wp2_with fail
 all_goals
  refine(eR c at_ mild _ E1.st).mono ?_;rintro e w1 (⟨hk,rfl,hP,F⟩|⟨ch,rfl,hS,F⟩);rotate_left
  ·go_wp2_with fail;exact⟨rfl,.inr (E1.pan ⟨ch,rfl,hS,F⟩)⟩
  have HK:=Z hk;have E2:=Z (E1.call hP F);clear hk hP F;go_wp2_with fail;refine aG (fun w2=>Hid (Env c (at_+1) mild w [(w1.heap.size,#[.int .i64 29,.int .i64 (at_),.int .i64 (at_),.string (tk c.ts at_).raw,.int .u64 (tk c.ts at_).num,.slice none 0 0]),(w.heap.size,#[.int .i64 0,.int .i64 0,.int .i64 0,.string ⟨#[]⟩,.int .u64 0,.slice none 0 0])] [(.slice none 0 0,[])] w2)) (Z (E2.alloc _)) ?_;intro w2 E3;have Hlt:=Z E2.lt1.2;generalize w1.heap.size=b at*
  have q0:w2.cell? ⟨b,0,none⟩=some (.int .i64 29):=ab E3.z1 0;have q1:w2.cell? ⟨b,1,none⟩=some (.int .i64 (at_)):=ab E3.z1 1;have q2:w2.cell? ⟨b,2,none⟩=some (.int .i64 (at_)):=ab E3.z1 2;have q3:w2.cell? ⟨b,3,none⟩=some (.string (tk c.ts at_).raw):=ab E3.z1 3;have q4:w2.cell? ⟨b,4,none⟩=some (.int .u64 (tk c.ts at_).num):=ab E3.z1 4;have q5:w2.cell? ⟨b,5,none⟩=some (.slice none 0 0):=ab E3.z1 5;have hsz:¬9223372036854775807< (tk c.ts at_).raw.size:=by have:=(c.sz at_).1;omega
  have hob0:(.slice none 0 0:Value).ownBlock≠some b:=E3.dis (b,_) List.mem_cons_self (.slice none 0 0,_) List.mem_cons_self;go_region_held3 (fun w'=>w'.cell? ⟨b,0,none⟩=some (.int .i64 29)∧w'.cell? ⟨b,1,none⟩=some (.int .i64 (at_))∧w'.cell? ⟨b,2,none⟩=some (.int .i64 (at_))∧w'.cell? ⟨b,3,none⟩=some (.string (tk c.ts at_).raw)∧w'.cell? ⟨b,4,none⟩=some (.int .u64 (tk c.ts at_).num)∧w'.cell? ⟨b,5,none⟩=some (.slice none 0 0))
   ((repeat' with_reducible apply And.intro)<;>first|((repeat(with_reducible(first|assumption|apply bP|apply aD)));done)|(refine Fr.cell f3 (by first|assumption|simp[Value.ownBlock]) ?_;(repeat(with_reducible(first|assumption|apply bP|apply aD)));done)|(go_keep;done))
   ((refine dR rfl (.tmp 21) (.tmp 23) rfl (B:=w.heap.size) (v:= .slice none 0 0) (l:=[]) rfl (E3.k1.keep (((Fr.refl w2).alloc _).drew)) (ql w2 _) rfl (by simp) (Nat.le_trans E3.fr.size (by simp)) ?_;intro v3 w3 o3 f3 s3))
  have E4:=Z ((E3.keep ((((Fr.refl w2).alloc _).drew))).grow o3 f3 s3);clear q0 q1 q2 q3 q4 q5 hsz o3 f3 s3 E0 E1 E2 E3 hob0;have HS:=Z (show vV c at_ (at_+1) ({data:=#[]} ++ (tk c.ts at_).raw) ([] ++ [Nd.mk 29 (at_) (at_) (tk c.ts at_).raw (tk c.ts at_).num none 0 0]) (tk c.ts at_).raw∧({data:=#[]} ++ (tk c.ts at_).raw:ByteArray).size≤100001 from⟨⟨by rw[show({data:=#[]} ++ (tk c.ts at_).raw:ByteArray)=(tk c.ts at_).raw from by simp[ByteArray.ext_iff]];exact PSeg.one HK.out,fun _=>by rw[show({data:=#[]} ++ (tk c.ts at_).raw:ByteArray)=(tk c.ts at_).raw from by simp[ByteArray.ext_iff]]⟩,by rw[cV];have:=(c.sz at_).1;show 0+_≤_;omega⟩);go_wp2_with fail;go_loopw [5,6] (fun v t wr=>∃ (a:Nat) (ns:List Nd) (f l m:Int) (x s:ByteArray),t= .string s∧Hid (Env c a mild w [(b,#[.int .i64 29,.int .i64 f,.int .i64 l,.string x,.int .u64 m,.slice none 0 0]),(w.heap.size,#[.int .i64 0,.int .i64 0,.int .i64 0,.string ⟨#[]⟩,.int .u64 0,.slice none 0 0])] [(v,ns)] wr)∧
    Hid (vV c at_ a s ns x∧s.size≤(a-at_) *100001∧at_<a∧ns≠[]∧ns.length≤a)) (fun _ _ wr=>c.ts.length-gT c wr)
  case atStart=>exact⟨at_+1,_,_,_,_,_,_,rfl,E4,⟨HS.1,by have:=HS.2;omega,by omega,by simp,by simp⟩⟩
  case round=>
   obtain⟨a,ns,f,l,m,x,s,rfl,E,HR⟩:=hrel;go_wp2_with fail;refine(bG c _ a mild _ E.st).mono ?_;rintro e wa ⟨rfl,ka⟩;have Ea:=Z (E.keep ka);cases hc:aH (tk c.ts a) {data:=#[46]}
   ·go_wp2_with fail;obtain⟨g,kc,hv,hB,hcc,hg⟩:=Ea.k1.big HR.2.2.2.1;subst hv;have HB:=Z hB;have Hsm:=Z hcc;have Hg:=Z hg;clear hB hcc hg hc;have hnl:ns.length≤1000000:=by have:=HR.2.2.2.2;have:=Ea.st.lt;have:=c.small;omega
    by_cases h1:ns.length=1
    ·have H1:=Z h1;have h1':(((ns.length:Nat):Int) ==1)=true:=by simp[h1]
     clear h1;go_wp2_with fail;go_simp;go_wp2_with (first|(refine cE Ea.z1 rfl ?_)|(refine aw Ea.z2 rfl rfl rfl ?_));refine qh (aN rfl (setRow_heap _ _ _ _ _ _ Ea.z2) rfl) rfl ?_;have EE:=(Ea.swapB).set1 #[.int .i64 29,.int .i64 f,.int .i64 l,.string x,.int .u64 m,.slice none 0 0] (by simp;have:=Hlt.out;omega);obtain⟨r1,r2,r3,r4,r5⟩:=HR.out;exact .inl ⟨a,_,_,_,_,_,_,_,_,rfl,EE.st,EE.fr,r3,by
      have e:=r1.2 H1.out;exact .inl (by rw[e];exact r1.1)⟩
    ·have H1:=Z h1;have h1':(((ns.length:Nat):Int) ==1)=false:=by simp;omega
     clear h1;go_wp2_with fail;go_simp;go_wp2_with fail;refine(node_any w.heap.size 30 _ ns _ Ea.k1 HR.2.2.2.1 (by have:=HR.2.2.2.2;have:=Ea.st.lt;have:=c.small;omega)).mono ?_;rintro e wb ⟨rfl,kb⟩;have Eb:=Z ((Ea.keep kb).alloc #[.int .i64 0,.int .i64 0,.int .i64 0,.string ⟨#[]⟩,.int .u64 0,.slice none 0 0]);have Lb:=Z (af (Ea.keep kb).z2);have Lb2:=Z (af (Ea.keep kb).z1);clear kb;have hd:∀y∈ [(b,#[Value.int .i64 29,.int .i64 f,.int .i64 l,.string x,.int .u64 m,.slice none 0 0]),(w.heap.size,#[Value.int .i64 0,.int .i64 0,.int .i64 0,.string ⟨#[]⟩,.int .u64 0,.slice none 0 0])],y.1≠wb.heap.size:=by
      intro y hy;simp only[List.mem_cons,List.not_mem_nil,or_false] at hy;have:=Lb.out;have:=Lb2.out;rcases hy with rfl|rfl<;> (dsimp only;omega)
     have Ec:=Z (Eb.set1 #[.int .i64 30,.int .i64 (ns.head HR.2.2.2.1).first,.int .i64 (ns.getLast HR.2.2.2.1).last,.string ⟨#[]⟩,.int .u64 0,.slice (some ⟨g,0,none⟩) ns.length kc] hd);have Ed:=Z (Ec.set1 #[.int .i64 30,.int .i64 (ns.head HR.2.2.2.1).first,.int .i64 (ns.getLast HR.2.2.2.1).last,.string s,.int .u64 0,.slice (some ⟨g,0,none⟩) ns.length kc] hd);clear hd;go_wp2_with (first|(refine aw Eb.z1 rfl rfl rfl ?_)|(refine wG Ec.z1 rfl rfl ?_)|(refine cE Ed.z1 rfl ?_)|(refine aw Ed.z3 rfl rfl rfl ?_));refine qh (aN rfl (setRow_heap _ _ _ _ _ _ Ed.z3) rfl) rfl ?_;have EE:=(Ed.dropB.swapB).set1 #[.int .i64 30,.int .i64 (ns.head HR.2.2.2.1).first,.int .i64 (ns.getLast HR.2.2.2.1).last,.string s,.int .u64 0,.slice (some ⟨g,0,none⟩) ns.length kc] (by simp;have:=Hlt.out;omega);obtain⟨r1,r2,r3,r4,r5⟩:=HR.out;exact .inl ⟨a,_,_,_,_,_,_,_,_,rfl,EE.st,EE.fr,r3,.inl r1.1⟩
   ·have HC:=Z hc;clear hc;go_wp2_with fail;refine(eJ c _ a mild _ Ea.st).mono ?_;rintro e wb (⟨-,rfl,hP,F⟩|⟨ch,rfl,hS,F⟩);rotate_left
    ·go_wp2_with fail;exact⟨rfl,.inr (Ea.pan ⟨ch,rfl,hS,F⟩)⟩
    have Eb:=Z (Ea.call hP F);have hsm:Hid (ns.length≤1000000):=by have:=HR.2.2.2.2;have:=Eb.st.lt;have:=c.small;show ns.length≤_;omega
    clear hP F;go_wp2_with (refine aB Eb hsm.out (by simp) (by decide) rfl rfl ?_;intro v2 w2 Ec);refine Z ?_;go_wp2_with fail;refine(eR c (a+1) mild _ Ec.st).mono ?_;rintro e wd (⟨hk,rfl,hP,F⟩|⟨ch,rfl,hS,F⟩);rotate_left
    ·go_wp2_with fail;exact⟨rfl,.inr (Ec.pan ⟨ch,rfl,hS,F⟩)⟩
    have HKd:=Z hk;have Ed:=Z (Ec.call hP F);clear hk hP F;go_wp2_with (refine aw Ed.z1 rfl rfl rfl ?_);refine aG (fun w2=>Hid (Env c (a+2) mild w [(b,#[.int .i64 29,.int .i64 (a+1),.int .i64 (a+1),.string (tk c.ts (a+1)).raw,.int .u64 (tk c.ts (a+1)).num,.slice none 0 0]),(w.heap.size,#[.int .i64 0,.int .i64 0,.int .i64 0,.string ⟨#[]⟩,.int .u64 0,.slice none 0 0])] [(v2,_)] w2)) (Z (Ed.set1 _ (by simp;have:=Hlt.out;omega))) ?_;intro we Ee;have q0:we.cell? ⟨b,0,none⟩=some (.int .i64 29):=ab Ee.z1 0;have q1:we.cell? ⟨b,1,none⟩=some (.int .i64 (a+1)):=ab Ee.z1 1;have q2:we.cell? ⟨b,2,none⟩=some (.int .i64 (a+1)):=ab Ee.z1 2;have q3:we.cell? ⟨b,3,none⟩=some (.string (tk c.ts (a+1)).raw):=ab Ee.z1 3;have q4:we.cell? ⟨b,4,none⟩=some (.int .u64 (tk c.ts (a+1)).num):=ab Ee.z1 4;have q5:we.cell? ⟨b,5,none⟩=some (.slice none 0 0):=ab Ee.z1 5;have hsb:=HR.2.1;have hrb:=(c.sz (a+1)).1;have hal:=Ed.st.lt;have hsm2:Hid ((ns++ [Nd.mk 39 a a (tk c.ts a).raw (tk c.ts a).num none 0 0]).length≤1000000):=by
     have h5:=HR.2.2.2.2;have h6:=Ed.st.lt;have h7:=c.small;show(ns++ [Nd.mk 39 a a (tk c.ts a).raw (tk c.ts a).num none 0 0]).length≤1000000;rw[qk,List.length_singleton];omega
    have hcs:=c.small;have hsz1:¬9223372036854775807<s.size+1:=by have:(a-at_) *100001≤1000000*100001:=Nat.mul_le_mul_right _ (by omega);omega
    have hsz2:¬9223372036854775807<s.size+1+(tk c.ts (a+1)).raw.size:=by have:(a-at_) *100001≤1000000*100001:=Nat.mul_le_mul_right _ (by omega);omega
    clear hsb hrb hal hcs;have hob:v2.ownBlock≠some b:=Ee.dis (b,_) List.mem_cons_self (v2,_) List.mem_cons_self;go_region_held3 (fun w'=>w'.cell? ⟨b,0,none⟩=some (.int .i64 29)∧w'.cell? ⟨b,1,none⟩=some (.int .i64 (a+1))∧w'.cell? ⟨b,2,none⟩=some (.int .i64 (a+1))∧w'.cell? ⟨b,3,none⟩=some (.string (tk c.ts (a+1)).raw)∧w'.cell? ⟨b,4,none⟩=some (.int .u64 (tk c.ts (a+1)).num)∧w'.cell? ⟨b,5,none⟩=some (.slice none 0 0))
     ((repeat' with_reducible apply And.intro)<;>first|((repeat(with_reducible(first|assumption|apply bP|apply aD)));done)|(refine Fr.cell f3 (by first|assumption|simp[Value.ownBlock]) ?_;(repeat(with_reducible(first|assumption|apply bP|apply aD)));done)|(go_keep;done))
     ((refine dR rfl (.tmp 38) (.tmp 40) rfl (B:=w.heap.size) (v:=v2) rfl (Ee.k1.keep (((Fr.refl we).alloc _).drew)) (ql we _) rfl hsm2.out (Nat.le_trans Ee.fr.size (by simp)) ?_;intro v3 w3 o3 f3 s3))
    have Ef:=Z ((Ee.keep ((((Fr.refl we).alloc _).drew))).grow o3 f3 s3);clear q0 q1 q2 q3 q4 q5 hsz1 hsz2 o3 f3 s3 hob;go_wp2_with fail;go_roundw
    case rel=>
     obtain⟨r1,r2,r3,r4,r5⟩:=HR.out;refine⟨a+2,_,_,_,_,_,_,rfl,Ef,?_,?_,by omega,by simp,by simp;omega⟩
     ·exact⟨by rw[ed,ed,rm];exact PSeg.more r1.1 HC.out HKd.out,fun e=>absurd e (by simp)⟩
     ·have h1:=(c.sz (a+1)).1;have h2:(a+2-at_) *100001=(a-at_) *100001+200002:=by rw[show a+2-at_=(a-at_)+2 from by omega,Nat.add_mul]
      rw[h2,cV,cV];show s.size+1+_≤_;omega
    case measure=>
     rw[aE E.st,aE Ef.st];have:=Ef.st.lt;omega
theorem nX(c:PC)(at_:Nat)(mild:Bool)(w:World)(h:PSt c at_ mild w)(hd:aH (tk c.ts at_) ⟨#[46]⟩=true):
  Calls prog 51 #[.pointer (some ⟨c.bp,0,none⟩),.bool true] w (NPost c at_ mild w (PathG c true at_)):=by
 have E0:=Z (Env.start h);clear h;go_enter func51,ntmps51;go_wp2_with fail;have Ez:=Z ((E0.allocZ).addNil);refine(bG c _ at_ mild _ Ez.st).mono ?_;rintro e w0 ⟨rfl,k0⟩;have Ey:=Z (Ez.keep k0);clear k0 Ez;rw[hd];have HD:=Z hd;clear hd;go_wp2_with fail;refine(eJ c _ at_ mild _ Ey.st).mono ?_;rintro e wx (⟨-,rfl,hP,F⟩|⟨ch,rfl,hS,F⟩);rotate_left
 ·go_wp2_with fail;exact⟨rfl,.inr (Ey.pan ⟨ch,rfl,hS,F⟩)⟩
 have Ex:=Z (Ey.call hP F);clear hP F;go_wp2_with (refine aB Ex (by simp) (by simp) (by decide) rfl rfl ?_;intro v0 w0 E1);refine Z ?_;clear Ex Ey;go_wp2_with fail;refine(eR c (at_+1) mild _ E1.st).mono ?_;rintro e w1 (⟨hk,rfl,hP,F⟩|⟨ch,rfl,hS,F⟩);rotate_left
 ·go_wp2_with fail;exact⟨rfl,.inr (E1.pan ⟨ch,rfl,hS,F⟩)⟩
 have HK:=Z hk;have E2:=Z (E1.call hP F);clear hk hP F;go_wp2_with fail;refine aG (fun w2=>Hid (Env c ((at_+1)+1) mild w [(w1.heap.size,#[.int .i64 29,.int .i64 (at_+1),.int .i64 (at_+1),.string (tk c.ts (at_+1)).raw,.int .u64 (tk c.ts (at_+1)).num,.slice none 0 0]),(w.heap.size,#[.int .i64 0,.int .i64 0,.int .i64 0,.string ⟨#[]⟩,.int .u64 0,.slice none 0 0])] [(v0,([] ++ [Nd.mk 39 at_ at_ (tk c.ts at_).raw (tk c.ts at_).num none 0 0]))] w2)) (Z (E2.alloc _)) ?_;intro w2 E3;have Hlt:=Z E2.lt1.2;generalize w1.heap.size=b at*
 have q0:w2.cell? ⟨b,0,none⟩=some (.int .i64 29):=ab E3.z1 0;have q1:w2.cell? ⟨b,1,none⟩=some (.int .i64 (at_+1)):=ab E3.z1 1;have q2:w2.cell? ⟨b,2,none⟩=some (.int .i64 (at_+1)):=ab E3.z1 2;have q3:w2.cell? ⟨b,3,none⟩=some (.string (tk c.ts (at_+1)).raw):=ab E3.z1 3;have q4:w2.cell? ⟨b,4,none⟩=some (.int .u64 (tk c.ts (at_+1)).num):=ab E3.z1 4;have q5:w2.cell? ⟨b,5,none⟩=some (.slice none 0 0):=ab E3.z1 5;have hsz:¬9223372036854775807<1+(tk c.ts (at_+1)).raw.size:=by have:=(c.sz (at_+1)).1;omega
 have hob0:(v0:Value).ownBlock≠some b:=E3.dis (b,_) List.mem_cons_self (v0,_) List.mem_cons_self;go_region_held3 (fun w'=>w'.cell? ⟨b,0,none⟩=some (.int .i64 29)∧w'.cell? ⟨b,1,none⟩=some (.int .i64 (at_+1))∧w'.cell? ⟨b,2,none⟩=some (.int .i64 (at_+1))∧w'.cell? ⟨b,3,none⟩=some (.string (tk c.ts (at_+1)).raw)∧w'.cell? ⟨b,4,none⟩=some (.int .u64 (tk c.ts (at_+1)).num)∧w'.cell? ⟨b,5,none⟩=some (.slice none 0 0))
  ((repeat' with_reducible apply And.intro)<;>first|((repeat(with_reducible(first|assumption|apply bP|apply aD)));done)|(refine Fr.cell f3 (by first|assumption|simp[Value.ownBlock]) ?_;(repeat(with_reducible(first|assumption|apply bP|apply aD)));done)|(go_keep;done))
  ((refine dR rfl (.tmp 21) (.tmp 23) rfl (B:=w.heap.size) (v:=v0) (l:=([] ++ [Nd.mk 39 at_ at_ (tk c.ts at_).raw (tk c.ts at_).num none 0 0])) rfl (E3.k1.keep (((Fr.refl w2).alloc _).drew)) (ql w2 _) rfl (by simp) (Nat.le_trans E3.fr.size (by simp)) ?_;intro v3 w3 o3 f3 s3))
 have E4:=Z ((E3.keep ((((Fr.refl w2).alloc _).drew))).grow o3 f3 s3);clear q0 q1 q2 q3 q4 q5 hsz o3 f3 s3 E0 E1 E2 E3 hob0;have HS:=Z (show vU c at_ ((at_+1)+1) ({data:=#[46]} ++ (tk c.ts (at_+1)).raw) (([] ++ [Nd.mk 39 at_ at_ (tk c.ts at_).raw (tk c.ts at_).num none 0 0]) ++ [Nd.mk 29 (at_+1) (at_+1) (tk c.ts (at_+1)).raw (tk c.ts (at_+1)).num none 0 0]) (tk c.ts (at_+1)).raw∧({data:=#[46]} ++ (tk c.ts (at_+1)).raw:ByteArray).size≤100001 from⟨⟨⟨_,PSeg.one HK.out⟩,by simp⟩,by rw[cV];have:=(c.sz (at_+1)).1;show 1+_≤_;omega⟩);go_wp2_with fail;go_loopw [5,6] (fun v t wr=>∃ (a:Nat) (ns:List Nd) (f l m:Int) (x s:ByteArray),t= .string s∧Hid (Env c a mild w [(b,#[.int .i64 29,.int .i64 f,.int .i64 l,.string x,.int .u64 m,.slice none 0 0]),(w.heap.size,#[.int .i64 0,.int .i64 0,.int .i64 0,.string ⟨#[]⟩,.int .u64 0,.slice none 0 0])] [(v,ns)] wr)∧
   Hid (vU c at_ a s ns x∧s.size≤(a-at_) *100001∧at_<a∧ns≠[]∧ns.length≤a)) (fun _ _ wr=>c.ts.length-gT c wr)
 case atStart=>exact⟨(at_+1)+1,_,_,_,_,_,_,rfl,E4,⟨HS.1,by have:=HS.2;omega,by omega,by simp,by simp⟩⟩
 case round=>
  obtain⟨a,ns,f,l,m,x,s,rfl,E,HR⟩:=hrel;go_wp2_with fail;refine(bG c _ a mild _ E.st).mono ?_;rintro e wa ⟨rfl,ka⟩;have Ea:=Z (E.keep ka);cases hc:aH (tk c.ts a) {data:=#[46]}
  ·go_wp2_with fail;obtain⟨g,kc,hv,hB,hcc,hg⟩:=Ea.k1.big HR.2.2.2.1;subst hv;have HB:=Z hB;have Hsm:=Z hcc;have Hg:=Z hg;clear hB hcc hg hc;have hnl:ns.length≤1000000:=by have:=HR.2.2.2.2;have:=Ea.st.lt;have:=c.small;omega
   by_cases h1:ns.length=1
   ·have H1:=Z h1;have h1':(((ns.length:Nat):Int) ==1)=true:=by simp[h1]
    clear h1;go_wp2_with fail;go_simp;go_wp2_with (first|(refine cE Ea.z1 rfl ?_)|(refine aw Ea.z2 rfl rfl rfl ?_));refine qh (aN rfl (setRow_heap _ _ _ _ _ _ Ea.z2) rfl) rfl ?_;have EE:=(Ea.swapB).set1 #[.int .i64 29,.int .i64 f,.int .i64 l,.string x,.int .u64 m,.slice none 0 0] (by simp;have:=Hlt.out;omega);obtain⟨r1,r2,r3,r4,r5⟩:=HR.out;exact .inl ⟨a,_,_,_,_,_,_,_,_,rfl,EE.st,EE.fr,r3,by
     have:=r1.2;have:=H1.out;omega⟩
   ·have H1:=Z h1;have h1':(((ns.length:Nat):Int) ==1)=false:=by simp;omega
    clear h1;go_wp2_with fail;go_simp;go_wp2_with fail;refine(node_any w.heap.size 30 _ ns _ Ea.k1 HR.2.2.2.1 (by have:=HR.2.2.2.2;have:=Ea.st.lt;have:=c.small;omega)).mono ?_;rintro e wb ⟨rfl,kb⟩;have Eb:=Z ((Ea.keep kb).alloc #[.int .i64 0,.int .i64 0,.int .i64 0,.string ⟨#[]⟩,.int .u64 0,.slice none 0 0]);have Lb:=Z (af (Ea.keep kb).z2);have Lb2:=Z (af (Ea.keep kb).z1);clear kb;have hd:∀y∈ [(b,#[Value.int .i64 29,.int .i64 f,.int .i64 l,.string x,.int .u64 m,.slice none 0 0]),(w.heap.size,#[Value.int .i64 0,.int .i64 0,.int .i64 0,.string ⟨#[]⟩,.int .u64 0,.slice none 0 0])],y.1≠wb.heap.size:=by
     intro y hy;simp only[List.mem_cons,List.not_mem_nil,or_false] at hy;have:=Lb.out;have:=Lb2.out;rcases hy with rfl|rfl<;> (dsimp only;omega)
    have Ec:=Z (Eb.set1 #[.int .i64 30,.int .i64 (ns.head HR.2.2.2.1).first,.int .i64 (ns.getLast HR.2.2.2.1).last,.string ⟨#[]⟩,.int .u64 0,.slice (some ⟨g,0,none⟩) ns.length kc] hd);have Ed:=Z (Ec.set1 #[.int .i64 30,.int .i64 (ns.head HR.2.2.2.1).first,.int .i64 (ns.getLast HR.2.2.2.1).last,.string s,.int .u64 0,.slice (some ⟨g,0,none⟩) ns.length kc] hd);clear hd;go_wp2_with (first|(refine aw Eb.z1 rfl rfl rfl ?_)|(refine wG Ec.z1 rfl rfl ?_)|(refine cE Ed.z1 rfl ?_)|(refine aw Ed.z3 rfl rfl rfl ?_));refine qh (aN rfl (setRow_heap _ _ _ _ _ _ Ed.z3) rfl) rfl ?_;have EE:=(Ed.dropB.swapB).set1 #[.int .i64 30,.int .i64 (ns.head HR.2.2.2.1).first,.int .i64 (ns.getLast HR.2.2.2.1).last,.string s,.int .u64 0,.slice (some ⟨g,0,none⟩) ns.length kc] (by simp;have:=Hlt.out;omega);obtain⟨r1,r2,r3,r4,r5⟩:=HR.out;exact .inl ⟨a,_,_,_,_,_,_,_,_,rfl,EE.st,EE.fr,r3,.inr ⟨rfl,HD,r1.1⟩⟩
  ·have HC:=Z hc;clear hc;go_wp2_with fail;refine(eJ c _ a mild _ Ea.st).mono ?_;rintro e wb (⟨-,rfl,hP,F⟩|⟨ch,rfl,hS,F⟩);rotate_left
   ·go_wp2_with fail;exact⟨rfl,.inr (Ea.pan ⟨ch,rfl,hS,F⟩)⟩
   have Eb:=Z (Ea.call hP F);have hsm:Hid (ns.length≤1000000):=by have:=HR.2.2.2.2;have:=Eb.st.lt;have:=c.small;show ns.length≤_;omega
   clear hP F;go_wp2_with (refine aB Eb hsm.out (by simp) (by decide) rfl rfl ?_;intro v2 w2 Ec);refine Z ?_;go_wp2_with fail;refine(eR c (a+1) mild _ Ec.st).mono ?_;rintro e wd (⟨hk,rfl,hP,F⟩|⟨ch,rfl,hS,F⟩);rotate_left
   ·go_wp2_with fail;exact⟨rfl,.inr (Ec.pan ⟨ch,rfl,hS,F⟩)⟩
   have HKd:=Z hk;have Ed:=Z (Ec.call hP F);clear hk hP F;go_wp2_with (refine aw Ed.z1 rfl rfl rfl ?_);refine aG (fun w2=>Hid (Env c (a+2) mild w [(b,#[.int .i64 29,.int .i64 (a+1),.int .i64 (a+1),.string (tk c.ts (a+1)).raw,.int .u64 (tk c.ts (a+1)).num,.slice none 0 0]),(w.heap.size,#[.int .i64 0,.int .i64 0,.int .i64 0,.string ⟨#[]⟩,.int .u64 0,.slice none 0 0])] [(v2,_)] w2)) (Z (Ed.set1 _ (by simp;have:=Hlt.out;omega))) ?_;intro we Ee;have q0:we.cell? ⟨b,0,none⟩=some (.int .i64 29):=ab Ee.z1 0;have q1:we.cell? ⟨b,1,none⟩=some (.int .i64 (a+1)):=ab Ee.z1 1;have q2:we.cell? ⟨b,2,none⟩=some (.int .i64 (a+1)):=ab Ee.z1 2;have q3:we.cell? ⟨b,3,none⟩=some (.string (tk c.ts (a+1)).raw):=ab Ee.z1 3;have q4:we.cell? ⟨b,4,none⟩=some (.int .u64 (tk c.ts (a+1)).num):=ab Ee.z1 4;have q5:we.cell? ⟨b,5,none⟩=some (.slice none 0 0):=ab Ee.z1 5;have hsb:=HR.2.1;have hrb:=(c.sz (a+1)).1;have hal:=Ed.st.lt;have hsm2:Hid ((ns++ [Nd.mk 39 a a (tk c.ts a).raw (tk c.ts a).num none 0 0]).length≤1000000):=by
    have h5:=HR.2.2.2.2;have h6:=Ed.st.lt;have h7:=c.small;show(ns++ [Nd.mk 39 a a (tk c.ts a).raw (tk c.ts a).num none 0 0]).length≤1000000;rw[qk,List.length_singleton];omega
   have hcs:=c.small;have hsz1:¬9223372036854775807<s.size+1:=by have:(a-at_) *100001≤1000000*100001:=Nat.mul_le_mul_right _ (by omega);omega
   have hsz2:¬9223372036854775807<s.size+1+(tk c.ts (a+1)).raw.size:=by have:(a-at_) *100001≤1000000*100001:=Nat.mul_le_mul_right _ (by omega);omega
   clear hsb hrb hal hcs;have hob:v2.ownBlock≠some b:=Ee.dis (b,_) List.mem_cons_self (v2,_) List.mem_cons_self;go_region_held3 (fun w'=>w'.cell? ⟨b,0,none⟩=some (.int .i64 29)∧w'.cell? ⟨b,1,none⟩=some (.int .i64 (a+1))∧w'.cell? ⟨b,2,none⟩=some (.int .i64 (a+1))∧w'.cell? ⟨b,3,none⟩=some (.string (tk c.ts (a+1)).raw)∧w'.cell? ⟨b,4,none⟩=some (.int .u64 (tk c.ts (a+1)).num)∧w'.cell? ⟨b,5,none⟩=some (.slice none 0 0))
    ((repeat' with_reducible apply And.intro)<;>first|((repeat(with_reducible(first|assumption|apply bP|apply aD)));done)|(refine Fr.cell f3 (by first|assumption|simp[Value.ownBlock]) ?_;(repeat(with_reducible(first|assumption|apply bP|apply aD)));done)|(go_keep;done))
    ((refine dR rfl (.tmp 38) (.tmp 40) rfl (B:=w.heap.size) (v:=v2) rfl (Ee.k1.keep (((Fr.refl we).alloc _).drew)) (ql we _) rfl hsm2.out (Nat.le_trans Ee.fr.size (by simp)) ?_;intro v3 w3 o3 f3 s3))
   have Ef:=Z ((Ee.keep ((((Fr.refl we).alloc _).drew))).grow o3 f3 s3);clear q0 q1 q2 q3 q4 q5 hsz1 hsz2 o3 f3 s3 hob;go_wp2_with fail;go_roundw
   case rel=>
    obtain⟨r1,r2,r3,r4,r5⟩:=HR.out;refine⟨a+2,_,_,_,_,_,_,rfl,Ef,?_,?_,by omega,by simp,by simp;omega⟩
    ·exact⟨⟨_,PSeg.more r1.1.choose_spec HC.out HKd.out⟩,by simp⟩
    ·have h1:=(c.sz (a+1)).1;have h2:(a+2-at_) *100001=(a-at_) *100001+200002:=by rw[show a+2-at_=(a-at_)+2 from by omega,Nat.add_mul]
     rw[h2,cV,cV];show s.size+1+_≤_;omega
   case measure=>
    rw[aE E.st,aE Ef.st];have:=Ef.st.lt;omega
theorem fN(c:PC)(at_:Nat)(mild:Bool)(w:World)(h:PSt c at_ mild w):
  Calls prog 51 #[.pointer (some ⟨c.bp,0,none⟩),.bool false] w (NPost c at_ mild w (PathG c false at_)):=rW c at_ mild w h false (fun h=>by cases h)
theorem dk(c:PC)(at_:Nat)(mild:Bool)(w:World)(h:PSt c at_ mild w):
  Calls prog 51 #[.pointer (some ⟨c.bp,0,none⟩),.bool true] w (NPost c at_ mild w (PathG c true at_)):=by
 cases hd:aH (tk c.ts at_) ⟨#[46]⟩
 ·exact rW c at_ mild w h true (fun _=>hd)
 ·exact nX c at_ mild w h hd
end Go.Proofs.YtnclklfhjbkjhaaGreatDoor
