/- Part of the proof: M1 M2 M3 O0. -/
import Derived.Test.YtnclklfhjbkjhaaGreatDoorDc
import Derived.Test.YtnclklfhjbkjhaaGreatDoorFa
import Derived.LaidEql
import Derived.Stop.Asserts
import Derived.RowKitTokens
import Derived.StillTailTactics
set_option maxRecDepth 1000000
set_option maxHeartbeats 40000000
set_option linter.unusedSimpArgs false
namespace Go.Proofs.YtnclklfhjbkjhaaGreatDoor
open Tryz
open Go.RowKit Go.Extern.Stop Go.Stop Go.Extern
theorem oN(t:Addr)(w:World):(ReflectliteValue.unpack (.iface 168 (.pointer (some t)))).run prog w
  = .ok (.agg #[.pointer (some ⟨24,168,none⟩),.pointer (some ⟨w.heap.size,0,none⟩),.int .u64 150]) (w.alloc (.cells #[.pointer (some t)] 168)):=by kernel_rfl
theorem vh(a:Addr)(w:World):(ReflectliteValue.methodAny (ReflectliteValue.valueError "reflectlite.Value.Type" 0) (fun t _ _ _=>ReflectliteType.toType t) #[.agg #[.pointer (some ⟨24,168,none⟩),.pointer (some a),.int .u64 150]]).run prog w
  = .ok (.iface 223 (.agg #[.pointer (some ⟨24,168,none⟩)])) w:=by kernel_rfl
theorem tC(h:Value)(w:World):(Go.method 440 223 (.agg #[h]) "Kind").run prog w= .ok (230,h) w:=by kernel_rfl
theorem oP(w:World):((ReflectliteType.abiMethod fun t=>(fun a:Nat=>Value.int IntKind.u8 (a:Int)) <$>Rtype.kind t) #[.pointer (some ⟨24,168,none⟩)]).run prog w= .ok (.int .u8 22) w:=by kernel_rfl
theorem qY(w:World):((ReflectliteType.abiMethod fun t=>(fun a:Nat=>Value.int IntKind.u8 (a:Int)) <$>Rtype.kind t) #[.pointer (some ⟨24,75,none⟩)]).run prog w= .ok (.int .u8 20) w:=by kernel_rfl
theorem tD(h:Value)(w:World):(Go.method 440 223 (.agg #[h]) "Elem").run prog w= .ok (255,.agg #[h]) w:=by kernel_rfl
theorem jI(h:Value)(w:World):(Go.method 440 223 (.agg #[h]) "AssignableTo").run prog w= .ok (253,.agg #[h]) w:=by kernel_rfl
theorem vj(w:World):(ReflectliteType.method ReflectliteType.elem #[.agg #[.pointer (some ⟨24,168,none⟩)]]).run prog w= .ok (.iface 223 (.agg #[.pointer (some ⟨24,75,none⟩)])) w:=by kernel_rfl
theorem qX(v:Value)(w:World):(ReflectliteType.typeOf #[.iface 172 v]).run prog w= .ok (.iface 223 (.agg #[.pointer (some ⟨24,172,none⟩)])) w:=by kernel_rfl
def kV:Array (String×TypeId):=#[("End",78),("Error",82),("GetPosition",78),("Start",78),("Unwrap",154)]
theorem oO(w:World):∃i,(Rtype.under 75).run prog w= .ok (74,i) w∧i.desc= .interface kV:=by
 have h:(prog.info? 74).map (·.desc)=some (.interface kV):=by kernel_rfl
 obtain⟨i,hi,hd⟩:=Option.map_eq_some_iff.1 h;have h2:(Rtype.under 75).run prog w=(do pure (74,←typeInfo 74):Sem (TypeId×TypeInfo)).run prog w:=by kernel_rfl
 refine⟨i,?_,hd⟩;rw[h2];simp[typeInfo,hi]
theorem nK(w:World):∃i,(Rtype.under 172).run prog w= .ok (172,i) w∧i.desc= .pointer 174:=by
 have h:(prog.info? 172).map (·.desc)=some (.pointer 174):=by kernel_rfl
 obtain⟨i,hi,hd⟩:=Option.map_eq_some_iff.1 h;refine⟨i,?_,hd⟩;simp[Rtype.under,typeInfo,hi,hd]
theorem j3(w:World):(Rtype.implements 75 172).run prog w= .ok false w:=by
 have h1:(Rtype.noPackMethods "a method set held against an interface's list" 172).run prog w= .ok () w:=by kernel_rfl
 have h2:(Rtype.noPackMethods "a method set held against an interface's list" 75).run prog w= .ok () w:=by kernel_rfl
 obtain⟨i,hi,hd⟩:=oO w;obtain⟨j,hj,he⟩:=nK w;have h:(prog.info? 172).map (fun i=>(lacking kV i.methods).isEmpty)=some false:=by kernel_rfl
 obtain⟨m,hm,hl⟩:=Option.map_eq_some_iff.1 h;obtain⟨s,hs⟩:=missingMethod_some (want:=kV) (got:=m.methods) (fun e=>by rw[e] at hl;cases hl);unfold Rtype.implements;simp[h1,h2,hi,hj,hd,he,typeInfo,hm,hs,Result.andThen]
theorem j4(w:World):(ReflectliteType.relation "AssignableTo" ReflectliteType.assignableTo #[.agg #[.pointer (some ⟨24,172,none⟩)],.iface 223 (.agg #[.pointer (some ⟨24,75,none⟩)])]).run prog w= .ok (.bool false) w:=by
 have h1:(ReflectliteType.relation "AssignableTo" ReflectliteType.assignableTo #[.agg #[.pointer (some ⟨24,172,none⟩)],.iface 223 (.agg #[.pointer (some ⟨24,75,none⟩)])]).run prog w=(do pure (.bool (←ReflectliteType.assignableTo 75 172)):Sem Value).run prog w:=by kernel_rfl
 have h2:(ReflectliteType.assignableTo 75 172).run prog w=(do pure ((←Rtype.directlyAssignable 75 172) || (←Rtype.implements 75 172)):Sem Bool).run prog w:=by kernel_rfl
 have h3:(Rtype.directlyAssignable 75 172).run prog w= .ok false w:=by kernel_rfl
 have h4:(ReflectliteType.assignableTo 75 172).run prog w= .ok false w:=by
  rw[h2];simp[h3,j3 w,Result.andThen]
 rw[h1];simp[h4,Result.andThen]
theorem vm(a:Addr)(w:World):(Instr.typeAssert (.iface 172 (.pointer (some a))) 63 228 true).run prog w= .ok (.tuple #[.nilIface,.bool false]) w:=run_typeAssert_lacksB underlying228 (by kernel_rfl) (by kernel_rfl) _ _ w
theorem vl(a:Addr)(w:World):(Instr.typeAssert (.iface 172 (.pointer (some a))) 63 231 true).run prog w= .ok (.tuple #[.nilIface,.bool false]) w:=run_typeAssert_lacksB underlying231 (by kernel_rfl) (by kernel_rfl) _ _ w
theorem vk(a:Addr)(w:World):(Instr.typeAssert (.iface 172 (.pointer (some a))) 63 232 true).run prog w= .ok (.tuple #[.nilIface,.bool false]) w:=run_typeAssert_lacksB underlying232 (by kernel_rfl) (by kernel_rfl) _ _ w
theorem xD(z:Sem Value)(f:TypeId→Addr→Nat→Nat→Sem Value)(v:Value):
  ReflectliteValue.method z f #[v]=(do match ←ReflectliteValue.parts v with|none=>z|some (t,a,fl)=>f t a fl (fl%32)):=rfl
theorem tB(a:Addr)(w:World):(ReflectliteValue.parts (.agg #[.pointer (some ⟨24,168,none⟩),.pointer (some a),.int .u64 150])).run prog w= .ok (some (168,a,150)) w:=by kernel_rfl
theorem tE(a p:Addr)(W:World)(ha:W.cell? a=some (.pointer (some p))):
  (ReflectliteValue.method (ReflectliteValue.valueError "reflectlite.Value.IsNil" 0) ReflectliteValue.isNil #[.agg #[.pointer (some ⟨24,168,none⟩),.pointer (some a),.int .u64 150]]).run prog W= .ok (.bool false) W:=by
 rw[xD];simp only[Sem.run_bind,tB,Result.andThen];simp[ReflectliteValue.isNil,loadVar,isAgg,underlying,underlying168,ha,Result.andThen]
theorem yX(a:Addr)(t x y z:Value)(w:World):Calls prog 136 #[.iface 172 (.pointer (some a)),t,.agg #[x,y,z],.iface 223 (.agg #[.pointer (some ⟨24,75,none⟩)])] w fun e w'=>e= .returned (.bool false)∧Keep w w':=by
 have h154:= @run_callFunc_extern prog 154 _ ReflectliteType.typeOf func154 (by kernel_rfl) (by kernel_rfl) (by kernel_rfl) (by kernel_rfl);have h253:= @run_callFunc_extern prog 253 _ (ReflectliteType.relation "AssignableTo" ReflectliteType.assignableTo) func253 (by kernel_rfl) (by kernel_rfl) (by kernel_rfl) (by kernel_rfl);have tO:=qX;have mA:=jI;have aA:=j4;have a1:=vm a;have a2:=vl a;have a3:=vk a;go_enter func136,ntmps136;go_wp2;refine wp_loop_rounds 1 ?_;rw[rounds_succ];go_wp2;go_ret;exact⟨rfl,(Fr.refl _).alloc _⟩
theorem xE(a tg:Addr)(w:World):Calls prog 103 #[.iface 172 (.pointer (some a)),.iface 168 (.pointer (some tg))] w fun e w'=>e= .returned (.bool false)∧Keep w w':=by
 have h133:= @run_callFunc_extern prog 133 _ (fun args=>ReflectliteValue.unpack (args.getD 0 (.tuple #[]))) func133 (by kernel_rfl) (by kernel_rfl) (by kernel_rfl) (by kernel_rfl);have h134:= @run_callFunc_extern prog 134 _ (ReflectliteValue.methodAny (ReflectliteValue.valueError "reflectlite.Value.Type" 0) (fun t _ _ _=>ReflectliteType.toType t)) func134 (by kernel_rfl) (by kernel_rfl) (by kernel_rfl) (by kernel_rfl);have h135:= @run_callFunc_extern prog 135 _ (ReflectliteValue.method (ReflectliteValue.valueError "reflectlite.Value.IsNil" 0) ReflectliteValue.isNil) func135 (by kernel_rfl) (by kernel_rfl) (by kernel_rfl) (by kernel_rfl);have h230:= @run_callFunc_extern prog 230 _ (ReflectliteType.abiMethod fun t=>do pure (.int .u8 (←Rtype.kind t))) func230 (by kernel_rfl) (by kernel_rfl) (by kernel_rfl) (by kernel_rfl);have h255:= @run_callFunc_extern prog 255 _ (ReflectliteType.method ReflectliteType.elem) func255 (by kernel_rfl) (by kernel_rfl) (by kernel_rfl) (by kernel_rfl);have f1:=oN;have f2:=vh;have f3:=tC;have f4:=oP;have f5:=qY;have f6:=tD;have f7:=vj;have n8:=tE ⟨w.heap.size,0,none⟩ tg ((w.alloc (.cells #[.pointer (some tg)] 168)).alloc (.cells #[.pointer (some ⟨24,168,none⟩),.pointer (some ⟨w.heap.size,0,none⟩),.int .u64 150] 200)) (by simp);go_enter func103,ntmps103;go_wp2_with (go_at_call 136;refine(yX a _ _ _ _ _).mono ?_;rintro e w' ⟨rfl,k⟩);go_ret;exact⟨rfl,(((Fr.refl _).alloc _).alloc _).trans k⟩
end Go.Proofs.YtnclklfhjbkjhaaGreatDoor
namespace Go.Proofs.YtnclklfhjbkjhaaGreatDoor
open Tryz
open Go.RowKit
def j5(k:Nat)(sp:Value)(w:World):Prop:=∃v,w.heap[k]? =some (.cells #[.iface 127 sp,v] 171 (0,0))
def vX(sp:Value)(w:World)(e:Ending)(w':World):Prop:=∃k,e= .returned (.iface 169 (.pointer (some ⟨k,0,none⟩)))∧w.heap.size≤k∧j5 k sp w'∧Keep w w'
theorem qM(sp:Value)(a:Addr)(w:World):Calls prog 71 #[.iface 127 sp,.iface 172 (.pointer (some a))] w (vX sp w):=by
 go_enter func71,ntmps71;go_wp2_with (go_at_call 103;refine(xE a _ _).mono ?_;rintro e w' ⟨rfl,k⟩;have K:=Z k;clear k);refine qh (results_tmp results71 _ _ _) rfl ⟨w'.heap.size,rfl,?_,⟨_,ql w' _⟩,?_⟩
 ·have:=K.size;simp at this;omega
 ·exact(((Fr.refl w).alloc _).trans K).alloc _
theorem be(sp v:Value)(s:ByteArray)(w:World):Calls prog 35 #[.iface 127 sp,.string s,v] w (vX sp w):=by
 go_enter func35,ntmps35;go_wp2_with first
  |(go_at_call 72;refine(ju s _).mono ?_;rintro e w2 ⟨rfl,rfl⟩)
  |(go_at_call 71;refine(qM sp _ _).mono ?_;rintro e w3 ⟨k,rfl,hk,hb,kk⟩;have HK:=Z hk;have HB:=Z hb;have KK:=Z kk;clear hk hb kk)
 refine qh (results_tmp results35 _ _ _) rfl ⟨k,rfl,?_,HB,((Fr.refl w).alloc _).trans KK⟩;have:=HK.out;simp at this;omega
def zN(fn:ByteArray)(l c:Int):Value:= .agg #[.string fn,.int .i64 l,.int .i64 c,.int .i64 0]
def bS(fn:ByteArray)(l c:Int):Value:= .agg #[.string fn,.int .i64 l,.int .i64 c,.int .i64 0,.string fn,.int .i64 l,.int .i64 c,.int .i64 0]
theorem p7(f1 f2:ByteArray)(a1 a2 a3 b1 b2 b3:Int)(w:World):Calls prog 31 #[.agg #[.string f1,.int .i64 a1,.int .i64 a2,.int .i64 a3],.agg #[.string f2,.int .i64 b1,.int .i64 b2,.int .i64 b3]] w fun e w'=>e= .returned (.iface 127 (.agg #[.string f1,.int .i64 a1,.int .i64 a2,.int .i64 a3,.string f2,.int .i64 b1,.int .i64 b2,.int .i64 b3]))∧Keep w w':=by
 go_enter func31,ntmps31;go_wp2_with fail;exact qh (results_tmp results31 _ _ _) rfl ⟨rfl,((Fr.refl w).alloc _).alloc _⟩
theorem eY(fn:ByteArray)(fb:Nat)(l c:Int)(w:World)(h:w.cell? ⟨fb,0,none⟩=some (.string fn)):Calls prog 30 #[.int .i64 l,.int .i64 c,.pointer (some ⟨fb,0,none⟩)] w fun e w'=>e= .returned (.iface 127 (bS fn l c))∧Keep w w':=by
 go_enter func30,ntmps30;go_wp2_with (go_at_call 31;refine(p7 _ _ _ _ _ _ _ _ _).mono ?_;rintro e w' ⟨rfl,k⟩);exact qh (results_tmp results30 _ _ _) rfl ⟨rfl,((Fr.refl w).alloc _).trans k⟩
theorem bF(fn:ByteArray)(fb gb xb lx rr:Nat)(p pv:Ps)(T:Nat)(hps:PsOk T pv)(hT:T≤1000000)(w:World)(h:w.cell? ⟨fb,0,none⟩=some (.string fn))(hg:w.cell? ⟨gb,0,none⟩=some (.func (.func 30) #[] #[.pointer (some ⟨fb,0,none⟩)]))(hx:w.cell? ⟨xb,0,none⟩=some (.pointer (some ⟨lx,0,none⟩)))(hl:d_ lx rr p pv w):
  Calls prog 32 #[.pointer (some ⟨gb,0,none⟩),.pointer (some ⟨xb,0,none⟩)] w fun e w'=>e= .returned (.iface 127 (bS fn (pv.ln+1) (pv.cl+1)))∧Keep w w':=by
 have d3:w.cell? ⟨lx,3,none⟩=some (.int .i64 pv.ln):=ab hl 3;have d4:w.cell? ⟨lx,4,none⟩=some (.int .i64 pv.cl):=ab hl 4;obtain⟨h1,h2,h3,h4⟩:=hps;clear hl;go_enter func32,ntmps32;go_wp2_with fail;go_still_tail 11,(by kernel_rfl);change wpList _ _ _ _ _ w.drew;have hf:w.drew.cell? ⟨fb,0,none⟩=some (.string fn):=h;go_wp2_with (go_at_call 30;refine(eY fn fb _ _ _ hf).mono ?_;rintro e w' ⟨rfl,k⟩;have KK:=Z k;clear k);exact qh (results_tmp results32 _ _ _) rfl ⟨rfl,(Fr.refl w).drew.trans KK⟩
theorem oj(a:Addr)(w:World):(method 440 169 (.pointer (some a)) "GetPosition").run prog w= .ok (241,.pointer (some a)) w:=by kernel_rfl
theorem uA(a:Addr)(w:World):(nilAhead 440 169 (.pointer (some a)) "GetPosition").run prog w= .ok (some false) w:=by kernel_rfl
theorem lH(v:Value)(w:World):(method 440 127 v "Start").run prog w= .ok (238,v) w:=by kernel_rfl
theorem pZ(fn:ByteArray)(l c:Int)(w:World):Calls prog 238 #[bS fn l c] w fun e w'=>e= .returned (.agg #[.string fn,.int .i64 l,.int .i64 c,.int .i64 0])∧Keep w w':=by
 unfold bS;go_enter func238,ntmps238;go_wp2_with fail;exact qh (v:= .agg #[.string fn,.int .i64 l,.int .i64 c,.int .i64 0]) (by simp[results,results238,go_sem]) rfl ⟨rfl,((Fr.refl w).alloc _).alloc _⟩
theorem ov(k:Nat)(fn:ByteArray)(l c:Int)(w:World)(h:j5 k (bS fn l c) w):Calls prog 241 #[.pointer (some ⟨k,0,none⟩)] w fun e w'=>e= .returned (.agg #[.string fn,.int .i64 l,.int .i64 c,.int .i64 0])∧Keep w w':=by
 obtain⟨v,hb⟩:=h;have c0:w.cell? ⟨k,0,none⟩=some (.iface 127 (bS fn l c)):=ab hb 0;have hm:=lH;have hlt:=af hb;clear hb;go_enter func241,ntmps241;go_wp2_with (go_at_call 238;refine(pZ fn l c _).mono ?_;rintro e w2 ⟨rfl,kk⟩;have hb2:=Keep.blk kk (ql w (.cells #[.string ⟨#[]⟩,.int .i64 0,.int .i64 0,.int .i64 0] 77));have c20:=ab hb2 0;have c21:=ab hb2 1;have c22:=ab hb2 2;have c23:=ab hb2 3;have f20:=ae hb2 0;have f21:=ae hb2 1;have f22:=ae hb2 2;have f23:=ae hb2 3;have l2:=af hb2;simp only[show ∀a b c d:Value,(#[a,b,c,d]:Array Value)[0]? =some a from fun _ _ _ _=>rfl,show ∀a b c d:Value,(#[a,b,c,d]:Array Value)[1]? =some b from fun _ _ _ _=>rfl,show ∀a b c d:Value,(#[a,b,c,d]:Array Value)[2]? =some c from fun _ _ _ _=>rfl,show ∀a b c d:Value,(#[a,b,c,d]:Array Value)[3]? =some d from fun _ _ _ _=>rfl] at c20 c21 c22 c23;have HB2:=Z hb2;have KK:=Z kk;clear kk hb2);have hb9:=ag (ag (ag (ag HB2 0 (.string fn)) 1 (.int .i64 l)) 2 (.int .i64 c)) 3 (.int .i64 0);have q0:=ab hb9 0;have q1:=ab hb9 1;have q2:=ab hb9 2;have q3:=ab hb9 3;have f:Fr (· =w.heap.size) w2 ((((w2.setCell ⟨w.heap.size,0,none⟩ (.string fn)).setCell ⟨w.heap.size,1,none⟩ (.int .i64 l)).setCell ⟨w.heap.size,2,none⟩ (.int .i64 c)).setCell ⟨w.heap.size,3,none⟩ (.int .i64 0)):=
  ((((Fr.refl w2).setIn (S:=(· =w.heap.size)) (p:=⟨w.heap.size,0,none⟩) _ rfl).setIn (p:=⟨w.heap.size,1,none⟩) _ rfl).setIn (p:=⟨w.heap.size,2,none⟩) _ rfl).setIn (p:=⟨w.heap.size,3,none⟩) _ rfl
 refine qh (v:= .agg #[.string fn,.int .i64 l,.int .i64 c,.int .i64 0]) (by simp at q0 q1 q2 q3;simp[results,results241,go_sem,q0,q1,q2,q3]) rfl ⟨rfl,?_⟩;exact(((Fr.refl w).alloc _).trans KK).andThen f fun i hi e=>by
  have e':i=w.heap.size:=e;omega
end Go.Proofs.YtnclklfhjbkjhaaGreatDoor
