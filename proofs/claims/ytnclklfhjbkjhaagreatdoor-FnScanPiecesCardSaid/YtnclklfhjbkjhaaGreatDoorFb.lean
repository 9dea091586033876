/- Part of the proof: F6. -/
import Derived.Test.YtnclklfhjbkjhaaGreatDoorFa
import Derived.Deep.RegionLaw
import Derived.Deep.RegionWith
set_option maxRecDepth 1000000
set_option maxHeartbeats 40000000
namespace Go.Proofs.YtnclklfhjbkjhaaGreatDoor
open Tryz
open Go.RowKit
def bv(ts:List Tk):List Value:=ts.flatMap Tk.cells
structure LM(w0:World)(lb:Nat)(s:ByteArray)(a:Nat)(how:Int)(ts:List Tk)(m:Nat)(w:World):Prop where
 keep:Keep w0 w
 low:w0.heap.size≤lb
 st:∃ (ln bg:Int) (iv tv:Value) (xs:List Value),LBlk lb s a ln bg how iv tv w∧0≤ln∧ln≤a+1∧w.ownsRow (lb+1) 144 9 iv m xs∧w.ownsRow (lb+1) 48 5 tv ts.length (bv ts)∧(∀g,iv.ownBlock=some g→tv.ownBlock≠some g)
theorem aQ{B e size n:Nat}{v:Value}{xs:List Value}{w w':World}{S:Nat→Prop}(h:w.ownsRow B e size v n xs)(k:Fr S w w')(hs:∀g,v.ownBlock=some g→¬S g):w'.ownsRow B e size v n xs:=by
 refine⟨h.1,?_⟩;rcases h.2 with hn|⟨g,cap,cur,rfl,hb,hgg,rest⟩
 ·exact .inl hn
 ·exact .inr ⟨g,cap,cur,rfl,hb,k.blk (hs g rfl) hgg,rest⟩
theorem gf{B e size n:Nat}{v:Value}{xs:List Value}{w:World}(h:w.ownsRow B e size v n xs):∃ka kc,v= .slice ka n kc∧n≤kc:=by
 rcases h.2 with⟨rfl,h0⟩|⟨g,cap,cur,rfl,_,_,hc,_⟩
 ·exact⟨none,0,by rw[h0],by omega⟩
 ·exact⟨_,_,rfl,hc⟩
def yk:Value:= .agg #[.bool false,.string ⟨#[]⟩,.string ⟨#[]⟩,.int .i64 0,.int .i64 0,.int .i64 0,.int .i64 0,.int .i64 0,.int .i64 0]
def zf:Value:= .agg #[.int .i64 0,.string ⟨#[]⟩,.string ⟨#[]⟩,.int .u64 0,.int .i64 0]
theorem uP:(prog.info? 144).map (fun i=>(i.zero,i.size,i.bytes))=some (some yk,9,88):=by kernel_rfl
theorem sL:(prog.info? 48).map (fun i=>(i.zero,i.size,i.bytes))=some (some zf,5,56):=by kernel_rfl
theorem Fr.ofGrownf{w w':World}{row:Option Nat}(h:w.grownBy w' row):Fr (fun k=>row=some k) w w':=
 ⟨h.os,h.tape,h.output,h.size,fun k hk hn=>h.block k hk (fun e=>hn e.symm)⟩
theorem cU{ops:Array Oper}{K:Act→World→Prop}{E:Prop}{Q:Exit→Act→World→Prop}{a:Act}{w:World}{o:Oper}(hgd:o.guard=none)(s x:Operand)(T e:TypeId)(z:Value)(sz by_:Nat)(hT:prog.underlying T=some (.slice e))(hinfo:(prog.info? e).map (fun i=>(i.zero,i.size,i.bytes))=some (some z,sz,by_))(hz:z.cells.size=sz)(h0:0<sz)(hby:by_≤1000)
  (ho:o.op= .call {callee:= .builtin .append,args:=#[s,x],argTypes:=#[T,T]})
  {B m:Nat} {v:Value} {xs:List Value} (hs:a.eval s=v) (hown:w.ownsRow B e sz v m xs) (b:Nat) (cs:Array Value) (hcs:cs.size=sz) (h1:∀u∈cs.toList,u.oneCell'=true) (hb:w.heap[b]? =some (.cells cs e (0,0)))
  {c:Nat} (hx:a.eval x= .slice (some ⟨b,0,none⟩) 1 c) (hm:m≤1000000) (hB:B≤w.heap.size)
  (h:∀g kc w',w'.ownsRow B e sz (.slice (some ⟨g,0,none⟩) (m+1) kc) (m+1) (xs++cs.toList)→Fr (fun k=>v.ownBlock=some k) w w'→(v.ownBlock=some g∨w.heap.size≤g)→K (a.put o.dst (.slice (some ⟨g,0,none⟩) (m+1) kc)) w'):
  if Region.wanted o (yielded ops a.tmps)=true then Oper.wp prog o a w K Q else E:=by
 obtain⟨i0,hi,hz0,hz1,hz2⟩:=info_parts hinfo;refine step_append_lies w hgd s x T ho B e i0 z sz by_ hT hi hz0 hz1 hz2 hz h0 v m xs hs hown ⟨b,0,none⟩ 1 c cs.toList hx (by rw[Array.length_toList,hcs];omega) (World.news_of_block hb) h1 (by omega) (by unfold maxLen;omega) (Nat.le_trans (Nat.mul_le_mul (show m+1≤1000001 by omega) hby) (by decide)) hB w.heap.size rfl ?_;intro g cap w' h2 h3 h4 _;refine h g cap w' h2 (Fr.ofGrownf h3) ?_;rcases h4 with h4|h4
 ·exact .inl h4
 ·exact .inr (by omega)
theorem mK(lb:Nat)(s:ByteArray)(a ln bg how:Int)(iv tv:Value)(w:World)(h:LBlk lb s a ln bg how iv tv w):
  Calls prog 76 #[.pointer (some ⟨lb,0,none⟩)] w fun e w'=>(∃x y z:Int,e= .returned (.agg #[.int .i64 x,.int .i64 y,.int .i64 z]))∧Keep w w':=by
 obtain⟨b,c0,c1,c2,c3,-,-,-,f1,f2,f3,-,-,-⟩:=h.facts;clear h;go_enter func76,ntmps76;go_wp2_with fail;go_region
 all_goals
  go_wp2_with fail;refine qh (rI rfl (show(w.alloc _).heap[w.heap.size]? =_ from ql w _) rfl) rfl ?_;exact⟨⟨_,_,_,rfl⟩,((Fr.refl w).alloc _).drew⟩
def tR(lb:Nat)(s:ByteArray)(a n:Nat)(how:Int)(tv:Value)(m:Nat)(iv:Value)(w:World)(e:Ending)(w':World):Prop:=
 e= .returned (.tuple #[])∧Fr (fun k=>k=lb∨iv.ownBlock=some k) w w'∧∃ (ln bg:Int) (g kc:Nat) (xs:List Value),LBlk lb s ((a+n:Nat):Int) ln bg how (.slice (some ⟨g,0,none⟩) (m+1) kc) tv w'∧0≤ln∧ln≤a+n+1∧
  w'.ownsRow (lb+1) 144 9 (.slice (some ⟨g,0,none⟩) (m+1) kc) (m+1) xs∧(iv.ownBlock=some g∨w.heap.size≤g)
theorem vZ{w:World}{g:Nat}{v0 v1 v2:Value}(h:w.heap[g]? =some (.cells #[v0,v1,v2] 141 (0,0))):
  g<w.heap.size∧w.cell? ⟨g,0,none⟩=some v0∧w.cell? ⟨g,1,none⟩=some v1∧w.cell? ⟨g,2,none⟩=some v2∧w.frozen? ⟨g,0,none⟩=false∧w.frozen? ⟨g,1,none⟩=false∧w.frozen? ⟨g,2,none⟩=false:=
 ⟨af h,ab h 0,ab h 1,ab h 2,ae h 0,ae h 1,ae h 2⟩
theorem vM(lb:Nat)(s:ByteArray)(hs:s.size≤100000)(a n m:Nat)(ln bg how:Int)(ia:Option Addr)(ic:Nat)(tv:Value)(cm:Bool)(bk:ByteArray)(xs:List Value)(w:World)(h:LBlk lb s a ln bg how (.slice ia m ic) tv w)(hn:a+n≤s.size)(h1:0≤ln∧ln≤a+1)
  (hi:w.ownsRow (lb+1) 144 9 (.slice ia m ic) m xs) (hm:m≤1000000):
  Calls prog 40 #[.pointer (some ⟨lb,0,none⟩),.string bk,.bool cm,.int .i64 n] w (tR lb s a n how tv m (.slice ia m ic) w):=by
 have H:=Z h;have HI:=Z hi;obtain⟨b,c0,c1,c2,c3,c4,-,-,f1,f2,f3,f4,-,-⟩:=h.facts;have hsz:(a:Int)≤(a:Int)+(n:Int):=by omega
 have hsz2:(a:Int)+(n:Int)≤(s.size:Int):=by omega
 have ha0:(0:Int)≤(a:Int):=by omega
 have hw1:IntKind.i64.wrap ((a:Int)+(n:Int))=(a:Int)+(n:Int):=IntWalk.i64_in _ (by omega);clear h hi;go_enter func40,ntmps40;have y0:∀w',Keep w w'→w'.cell? ⟨lb,0,none⟩=some (.string s)∧w'.cell? ⟨lb,1,none⟩=some (.int .i64 a):=fun w' k=>⟨Keep.cell k c0,Keep.cell k c1⟩
 go_upto_region 0 with fail;go_cut [8,9] (fun s8 s9 wx=>∃ (g:Nat) (x y z:Int) (t:ByteArray),s8= .pointer (some ⟨g,0,none⟩)∧s9= .string t∧Hid (wx.cell? ⟨g,0,none⟩=some (.int .i64 x)∧wx.cell? ⟨g,1,none⟩=some (.int .i64 y)∧wx.cell? ⟨g,2,none⟩=some (.int .i64 z)∧w.heap.size≤g∧Keep w wx))
 case first=>
  go_region_held3 (fun w'=>w'.cell? ⟨lb,0,none⟩=some (.string s)∧w'.cell? ⟨lb,1,none⟩=some (.int .i64 a))
   (exact y0 _ (by(repeat(first|(with_reducible exact Fr.refl _)|(with_reducible apply Fr.drew)|(with_reducible apply Fr.alloc)|(with_reducible refine Fr.trans ?_ kk)|(with_reducible refine Fr.setNew ?_ _ ?_)|(first|exact Nat.le_refl _|(have:=kk.size;simp only[World.size_alloc,World.size_drew] at*;omega)|(simp;omega))))))
   ((go_at_call 76;refine(mK lb s a ln bg how _ tv _ (H.keep (by(repeat(first|(with_reducible exact Fr.refl _)|(with_reducible apply Fr.drew)|(with_reducible apply Fr.alloc)|(with_reducible refine Fr.trans ?_ kk)|(with_reducible refine Fr.setNew ?_ _ ?_)|(first|exact Nat.le_refl _|(have:=kk.size;simp only[World.size_alloc,World.size_drew] at*;omega)|(simp;omega))))))).mono ?_;rintro e w1 ⟨⟨x,y,z,rfl⟩,kk⟩;try obtain⟨q0,q1,q2,q3,q4,q5,q6⟩:=vZ (Keep.blk kk (ql w _))))
  all_goals
   go_wp2_with fail;go_meet;refine⟨_,x,y,z,_,rfl,rfl,Z ?_⟩
   first
    |(obtain⟨-,p0,p1,p2,-,-,-⟩:=vZ (ql w1 (.cells #[.int .i64 x,.int .i64 y,.int .i64 z] 141))
      exact⟨p0,p1,p2,by have:=kk.size;simpa using this,by(repeat(first|(with_reducible exact Fr.refl _)|(with_reducible apply Fr.drew)|(with_reducible apply Fr.alloc)|(with_reducible refine Fr.trans ?_ kk)|(with_reducible refine Fr.setNew ?_ _ ?_)|(first|exact Nat.le_refl _|(have:=kk.size;simp only[World.size_alloc,World.size_drew] at*;omega)|(simp;omega))))⟩)
    |(obtain⟨-,p0,p1,p2,-,-,-⟩:=vZ (ag (ag (ag (Keep.blk kk (ql w _)) 0 (.int .i64 x)) 1 (.int .i64 y)) 2 (.int .i64 z))
      exact⟨p0,p1,p2,Nat.le_refl _,by(repeat(first|(with_reducible exact Fr.refl _)|(with_reducible apply Fr.drew)|(with_reducible apply Fr.alloc)|(with_reducible refine Fr.trans ?_ kk)|(with_reducible refine Fr.setNew ?_ _ ?_)|(first|exact Nat.le_refl _|(have:=kk.size;simp only[World.size_alloc,World.size_drew] at*;omega)|(simp;omega))))⟩)
 case rest=>
  obtain⟨g,x,y,z,t,rfl,rfl,HX⟩:=hcut;clear y0 b c0 c1 c2 c3 c4 f1 f2 f3 f4;go_wp2_with fail;refine(eX lb s hs a n ln bg how _ tv wc (H.keep HX.2.2.2.2) hn h1).mono ?_;rintro e w2 ⟨rfl,F2,ln2,bg2,L2,hln2⟩;have hglt:g<wc.heap.size:=ax HX.1;have hbc:lb<wc.heap.size:=af (H.keep HX.2.2.2.2);have hlg:g≠lb:=by have:=af H.out;have:=HX.2.2.2.1;omega
  have x0:=Fr.cell F2 hlg HX.1;have x1:=Fr.cell F2 hlg HX.2.1;have x2:=Fr.cell F2 hlg HX.2.2.1;have HR2:=Z (aQ (aQ HI HX.2.2.2.2 (fun _ _ h=>h)) F2 (fun g' hg' e=>by
   have:=World.ownsRow.lt HI g' hg';omega))
  have HF2:=Z (Fr.trans (HX.2.2.2.2.mono (S':=(· =lb)) fun _ _ h=>h.elim) F2);have HL2:=Z L2;clear L2 F2;obtain⟨b,c0,c1,c2,c3,c4,-,-,f1,f2,f3,f4,-,-⟩:=HL2.facts;have hgw:g<w2.heap.size:=ax x0;clear c1 c2 c3 f1 f2 f3;go_wp2_with fail;have hbc2:lb+1≤w2.heap.size:=b;have y0:∀w',Keep w2 w'→w'.cell? ⟨lb,4,none⟩=some (.slice ia m ic)∧w'.cell? ⟨g,0,none⟩=some (.int .i64 x)∧w'.cell? ⟨g,1,none⟩=some (.int .i64 y)∧w'.cell? ⟨g,2,none⟩=some (.int .i64 z):=fun w' k=>⟨Keep.cell k c4,Keep.cell k x0,Keep.cell k x1,Keep.cell k x2⟩
  have own:∀k,(Value.slice ia m ic).ownBlock=some k→k≠lb:=fun k hk=>by
   have:=World.ownsRow.lt HI k hk;omega
  have hy9:∀W w9,Keep w2 W→Fr (fun k=>(Value.slice ia m ic).ownBlock=some k) W w9→lb<w9.heap.size∧w9.cell? ⟨lb,4,none⟩=some (.slice ia m ic)∧w9.frozen? ⟨lb,4,none⟩=false:=fun W w9 k f=>by
   have hb:w9.heap[lb]? =_:=Fr.blk f (fun e=>own lb e rfl) (HL2.keep k);exact⟨af hb,ab hb 4,ae hb 4⟩
  go_region_law (first
   |(refine cU (by rfl) (.tmp 34) (.tmp 42) 27 144 yk 9 88 underlying27 uP (by rfl) (by decide) (by decide) (by rfl) (v:= .slice ia m ic) (by rfl) (aQ HR2.out (show Keep w2 _ from by(repeat(first|(with_reducible exact Fr.refl _)|(with_reducible apply Fr.drew)|(with_reducible apply Fr.alloc)|(with_reducible refine Fr.trans ?_ kk)|(with_reducible refine Fr.setNew ?_ _ ?_)|(first|exact Nat.le_refl _|(have:=kk.size;simp only[World.size_alloc,World.size_drew] at*;omega)|(simp;omega))))) (fun _ _ h=>h)) w1.heap.size #[.bool cm,.string bk,.string t,.int .i64 x,.int .i64 y,.int .i64 z,.int .i64 x9,.int .i64 y9,.int .i64 z9] (by rfl) (by simp[Value.oneCell']) (ql w1 _) (by rfl) hm (Nat.le_trans hbc2 (Fr.size (show Keep w2 _ from by(repeat(first|(with_reducible exact Fr.refl _)|(with_reducible apply Fr.drew)|(with_reducible apply Fr.alloc)|(with_reducible refine Fr.trans ?_ kk)|(with_reducible refine Fr.setNew ?_ _ ?_)|(first|exact Nat.le_refl _|(have:=kk.size;simp only[World.size_alloc,World.size_drew] at*;omega)|(simp;omega))))))) ?_;intro g9 kc9 w9 hr9 f9 hg9;obtain⟨e6,e4,e5⟩:=hy9 _ w9 (show Keep w2 _ from by(repeat(first|(with_reducible exact Fr.refl _)|(with_reducible apply Fr.drew)|(with_reducible apply Fr.alloc)|(with_reducible refine Fr.trans ?_ kk)|(with_reducible refine Fr.setNew ?_ _ ?_)|(first|exact Nat.le_refl _|(have:=kk.size;simp only[World.size_alloc,World.size_drew] at*;omega)|(simp;omega))))) f9)
   |(go_simp;go_at_call 76;go_wp2_with (go_at_call 76;refine(mK lb s _ _ _ _ _ tv _ (HL2.keep (by(repeat(first|(with_reducible exact Fr.refl _)|(with_reducible apply Fr.drew)|(with_reducible apply Fr.alloc)|(with_reducible refine Fr.trans ?_ kk)|(with_reducible refine Fr.setNew ?_ _ ?_)|(first|exact Nat.le_refl _|(have:=kk.size;simp only[World.size_alloc,World.size_drew] at*;omega)|(simp;omega))))))).mono ?_;rintro e w1 ⟨⟨x9,y9,z9,rfl⟩,kk⟩;obtain⟨d4,d0,d1,d2⟩:=y0 w1 (by(repeat(first|(with_reducible exact Fr.refl _)|(with_reducible apply Fr.drew)|(with_reducible apply Fr.alloc)|(with_reducible refine Fr.trans ?_ kk)|(with_reducible refine Fr.setNew ?_ _ ?_)|(first|exact Nat.le_refl _|(have:=kk.size;simp only[World.size_alloc,World.size_drew] at*;omega)|(simp;omega)))))));have n4:=World.new_ne w1 _ d4;have n0:=World.new_ne w1 _ d0;have n1:=ax d4;have n2:=ax d0)
  all_goals
   refine bodyPost_end (results_none rfl _ _ _) rfl ?_;have f0:=Fr.trans (Fr.mono (S':=fun k=>(Value.slice ia m ic).ownBlock=some k) (Fr.alloc (Fr.trans (Fr.drew (Fr.refl w2)) kk) _) (fun _ _ h=>h.elim)) f9;have hb:w9.heap[lb]? =_:=Fr.blk f0 (fun e=>own lb e rfl) HL2.out;refine⟨rfl,((HF2.mono fun _ _ h=> .inl h).trans (f0.mono fun _ _ h=> .inr h)).setIn _ (.inl rfl),ln2,bg2,g9,kc9,_,?_,hln2.1,hln2.2,aQ hr9 ((Fr.refl w9).setIn (S:=(· =lb)) (p:=⟨lb,4,none⟩) _ rfl) ?_,?_⟩
   ·unfold LBlk;rw[ag hb];rfl
   ·intro g' hg' e;have:=World.ownsRow.lt hr9 g' hg';omega
   ·rcases hg9 with h|h
    ·exact .inl h
    ·refine .inr (Nat.le_trans ?_ h);exact Nat.le_trans HF2.size (Fr.size (Fr.alloc (Fr.trans (Fr.drew (Fr.refl w2)) kk) _))
end Go.Proofs.YtnclklfhjbkjhaaGreatDoor
