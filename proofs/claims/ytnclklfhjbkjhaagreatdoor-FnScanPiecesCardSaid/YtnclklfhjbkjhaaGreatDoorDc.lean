/- Part of the proof: D2 D3 D4. -/
import Derived.Test.YtnclklfhjbkjhaaGreatDoorDb
import Derived.Laws.CopyOwn
set_option maxRecDepth 1000000
set_option maxHeartbeats 40000000
namespace Go.Proofs.YtnclklfhjbkjhaaGreatDoor
open Tryz
open Go.RowKit Go.Lib
theorem lk{P:Program}(w:World)(dT sT ty elem:TypeId)(g o dLen dCap:Nat)(s:ByteArray)(cur:Array Value)(t:TypeId)(cs:List Value)
  (hu:P.underlying dT=some (.slice elem)) (hs:(P.info? elem).map (·.size)=some 1)
  (hg:w.heap[g]? =some (.cells cur t (0,0))) (hcs:cs=List.take (Nat.min s.size dLen) (List.map (fun b=>Value.int .u8 b.toNat) s.data.toList)) (hn:cs.length=Nat.min s.size dLen)
  (hfit:o+cs.length≤cur.size):
  (Builtin.copy_ #[dT,sT] ty #[.slice (some ⟨g,o,none⟩) dLen dCap,.string s]).run P w=
   .ok (goInt cs.length) (w.setRow g (cur.toList.take o++ (cs++cur.toList.drop (o+cs.length))).toArray):=by
 have h1:∀v∈cs,v.oneCell'=true:=by
  intro v hv;rw[hcs] at hv;have hv:=List.mem_of_mem_take hv;simp only[List.mem_map] at hv;obtain⟨b,-,rfl⟩:=hv;rfl
 have hst:=run_storeCells_at P g o t cs 0 cur w hg (by simpa using hfit) h1;cases hq:P.info? elem with
 |none=>simp[hq] at hs
 |some i=>
  have hi:i.size=1:=by simpa[hq] using hs
  simp only[Nat.add_zero] at hst;simp[Builtin.copy_,run_underlying hu,Builtin.lenOf,Builtin.firstCells,sizeOf,typeInfo,hq];rw[←hcs,hst,←hn];simp
theorem mf{ops:Array Oper}{rest:List Oper}{Q:Exit→Act→World→Prop}{a:Act}{w:World}{pos:String}{after:Array Edge}{ty:TypeId}{d p q:Tmp}{g o dLen dCap:Nat}{s:ByteArray}{cur:Array Value}{cs:List Value}
  (hx:a.tmps.getD p undef= .slice (some ⟨g,o,none⟩) dLen dCap) (hy:a.tmps.getD q undef= .string s)
  (hg:w.heap[g]? =some (.cells cur 5 (0,0))) (hcs:cs=List.take (Nat.min s.size dLen) (List.map (fun b=>Value.int .u8 b.toNat) s.data.toList)) (hn:cs.length=Nat.min s.size dLen)
  (hfit:o+cs.length≤cur.size)
  (next:wpList prog ops Q rest (a.put (some d) (goInt cs.length)) (w.setRow g (cur.toList.take o++ (cs++cur.toList.drop (o+cs.length))).toArray)):
  wpList prog ops Q ({dst:=some d,op:= .call {callee:= .builtin .copy,args:=#[.tmp p,.tmp q],argTypes:=#[117,9]},type:=ty,pos:=pos,after:=after,guard:=none} ::rest) a w:=by
 refine wpList_plain rfl fun K hK=>?_
 have hrun:=lk (P:=prog) w 117 9 ty 5 g o dLen dCap s cur 5 cs (by kernel_rfl) (by kernel_rfl) hg hcs hn hfit;have hx':a.tmps[p]?.getD undef= .slice (some ⟨g,o,none⟩) dLen dCap:=by simpa using hx
 have hy':a.tmps[q]?.getD undef= .string s:=by simpa using hy
 unfold Oper.wp;simp[execOp,resolve,invoke,builtin,Act.eval,hx',hy',hrun,Result.andThen];exact hK _ _ next
structure RC where
 bb:Nat
 kb:Nat
 pb:Nat
 eb:Nat
 eo:Nat
 fin:Bool
 n1:bb≠kb
 n2:bb≠pb
 n3:kb≠pb
 lo:24≤bb∧24≤kb∧24≤pb
 el:eb<bb∧eb≠kb∧eb<pb
def xu(C:RC):Value:= .iface 172 (.pointer (some ⟨C.eb,C.eo,none⟩))
def ErrV(C:RC)(v:Value)(w:World):Prop:=(C.fin=true∧∃b,b≠C.eb∧(∃cs,w.heap[b]? =some (.cells cs 174 (0,0)))∧v= .iface 172 (.pointer (some ⟨b,0,none⟩)))∨(C.fin=false∧v=xu C)
theorem ErrV.fr{C:RC}{v:Value}{w w':World}{S:Nat→Prop}(h:ErrV C v w)(f:Fr S w w')(hS:∀k cs,S k→w.heap[k]? ≠some (.cells cs 174 (0,0))):ErrV C v w':=by
 rcases h with⟨h1,b,h2,⟨cs,h3⟩,h4⟩|h
 ·exact .inl ⟨h1,b,h2,⟨cs,f.blk (fun e=>hS b cs e h3) h3⟩,h4⟩
 ·exact .inr h
theorem ErrV.keep{C:RC}{v:Value}{w w':World}(h:ErrV C v w)(k:Keep w w'):ErrV C v w':=h.fr k fun _ _ e=>e.elim
structure Glob(C:RC)(w:World):Prop where
 eof:w.cell? ⟨0,0,none⟩=some (xu C)
 ebl:∃cs T,w.heap[C.eb]? =some (.cells cs T (0,0))
 tabs:Utf8Tabs 7 8 w
def CutsOk(C:RC)(w:World)(v:Value):Prop:=
 v= .slice none 0 0∨∃cb co cl cc,v= .slice (some ⟨cb,co,none⟩) cl cc∧cl≤cc∧cc≤maxLen∧(cb<C.bb∧cb<C.pb)∧cb≠C.kb∧cb≠C.pb∧∀i,i<cl→∃z,w.cell? ⟨cb,co+i,none⟩=some (.int .i64 z)
def PBlk(C:RC)(w:World)(tx:ByteArray)(cv:Value):Prop:=w.heap[C.pb]? =some (.cells #[.string tx,cv,.bool C.fin] 68 (0,0))
def oU(C:RC)(w:World)(K:List Value):Prop:=w.heap[C.kb]? =some (.cells K.toArray 5 (0,0))∧K.length=4096∧∀v∈K,∃b:UInt8,v= .int .u8 b.toNat
theorem ju(s:ByteArray)(w:World):Calls prog 72 #[.string s] w fun e w'=>e= .returned (.iface 172 (.pointer (some ⟨w.heap.size,0,none⟩)))∧w'=w.alloc (.cells #[.string s] 174):=by
 go_enter func72,ntmps72;go_wp2;go_ret;exact⟨rfl,rfl⟩
theorem rL(C:RC)(o n cp:Nat)(tx:ByteArray)(cv:Value)(w:World)(hp:PBlk C w tx cv)(hg:Glob C w)(h0:tx.size=0):
  Calls prog 233 #[.pointer (some ⟨C.pb,0,none⟩),.slice (some ⟨C.kb,o,none⟩) n cp] w fun e w'=>∃ev,ErrV C ev w'∧e= .returned (.tuple #[.int .i64 0,ev])∧Keep w w':=by
 have p0:=ab hp 0;have p2:=ab hp 2;have hpw:=af hp;have g0:=hg.eof;have hebl:C.eb<w.heap.size:=by obtain⟨cs,T,h⟩:=hg.ebl;exact af h
 have h0':((tx.size:Nat):Int)=0:=by omega
 simp only[show(#[Value.string tx,cv,Value.bool C.fin]:Array Value)[0]? =some (.string tx) from rfl] at p0;simp only[show(#[Value.string tx,cv,Value.bool C.fin]:Array Value)[2]? =some (.bool C.fin) from rfl] at p2;cases hf:C.fin
 ·rw[hf] at p2;clear hp hg;go_enter func233,ntmps233;go_wp2_with fail;go_region;go_wp2_with fail
  go_ret2
  exact⟨_,.inr ⟨hf,rfl⟩,rfl,(Fr.refl w).drew⟩
 ·rw[hf] at p2;clear hp hg;go_enter func233,ntmps233;go_wp2_with fail;refine(ju _ _).mono ?_;rintro e w' ⟨rfl,rfl⟩;go_wp2_with fail
  go_ret2
  exact⟨_,.inl ⟨hf,_,by omega,⟨_,ql w _⟩,rfl⟩,rfl,(Fr.refl w).alloc _⟩
theorem CutsOk.keep{C:RC}{w w':World}{v:Value}(h:CutsOk C w v)(f:Fr (fun k=>k=C.bb∨k=C.kb∨k=C.pb) w w'):CutsOk C w' v:=by
 rcases h with h|⟨cb,co,cl,cc,h1,h2,h2',h3,h4,h5,h6⟩
 ·exact .inl h
 ·refine .inr ⟨cb,co,cl,cc,h1,h2,h2',h3,h4,h5,fun i hi=>?_⟩;obtain⟨z,hz⟩:=h6 i hi;exact⟨z,Fr.cell f (by rintro(e|e|e)<;>omega) hz⟩
theorem CutsOk.tail{C:RC}{w:World}{cb co cl cc:Nat}(h:CutsOk C w (.slice (some ⟨cb,co,none⟩) cl cc))(hl:0<cl):CutsOk C w (.slice (some ⟨cb,co+1,none⟩) (cl-1) (cc-1)):=by
 rcases h with h|⟨cb',co',cl',cc',h1,h2,h2',h3,h4,h5,h6⟩
 ·cases h
 ·cases h1;refine .inr ⟨cb,co+1,cl-1,cc-1,rfl,by omega,by omega,h3,h4,h5,fun i hi=>?_⟩;obtain⟨z,hz⟩:=h6 (i+1) (by omega);exact⟨z,by rw[show co+1+i=co+(i+1) from by omega];exact hz⟩
def az(l:List UInt8):List Value:=l.map fun b=> .int .u8 b.toNat
theorem fT{P:Program}{ops:Array Oper}{rest:List Oper}{Q:Exit→Act→World→Prop}{a:Act}{w:World}(I:World→Prop)(h:I w)(k:∀w',I w'→wpList P ops Q rest a w'):wpList P ops Q rest a w:=k w h
def jM(C:RC)(o n:Nat)(tx:ByteArray)(K:List Value)(w:World)(e:Ending)(w':World):Prop:=
 ∃m cv' tx',0<m∧m≤n∧m≤tx.size∧e= .returned (.tuple #[.int .i64 m,.nilIface])∧Fr (fun k=>k=C.kb∨k=C.pb) w w'∧PBlk C w' tx' cv'∧CutsOk C w' cv'∧
  tx'.toList=tx.toList.drop m∧w'.heap[C.kb]? =some (.cells (K.take o++ (az (tx.toList.take m) ++K.drop (o+m))).toArray 5 (0,0))
theorem dA(t:ByteArray)(m:Nat):(t.extract m t.size).toList=t.toList.drop m:=by
 rw[qi,qi,ByteArray.data_extract,Array.toList_extract,List.extract_eq_take_drop];rw[List.take_of_length_le (by
  have:t.data.toList.length=t.size:=rfl;rw[List.length_drop,this];omega)]
theorem eG(t:ByteArray)(m:Nat):(t.extract 0 m).toList=t.toList.take m:=by
 rw[qi,qi,ByteArray.data_extract,Array.toList_extract,List.extract_eq_take_drop,List.drop_zero];rfl
theorem aR(t:ByteArray):t.toList.length=t.size:=by rw[qi];rfl
theorem rK(C:RC)(o n cp:Nat)(tx:ByteArray)(K:List Value)(w:World)(hp:PBlk C w tx (.slice none 0 0))(hk:oU C w K)(h0:0<tx.size)(hs:tx.size≤1000000)(hn:0<n)(hon:o+n≤4096):
  Calls prog 233 #[.pointer (some ⟨C.pb,0,none⟩),.slice (some ⟨C.kb,o,none⟩) n cp] w (jM C o n tx K w):=by
 have p0:=ab hp 0;have p1:=ab hp 1;have q0:=ae hp 0;have hpw:=af hp;simp only[show(#[Value.string tx,.slice none 0 0,Value.bool C.fin]:Array Value)[0]? =some (.string tx) from rfl] at p0;simp only[show(#[Value.string tx,.slice none 0 0,Value.bool C.fin]:Array Value)[1]? =some (.slice none 0 0) from rfl] at p1;have h0':¬ (((tx.size:Nat):Int)=0):=by omega
 have hne:=C.n3;go_enter func233,ntmps233;have hm:Nat.min tx.size n≤tx.size:=Nat.min_le_left tx.size n;have hm2:Nat.min tx.size n≤n:=Nat.min_le_right tx.size n;have hm0:0<Nat.min tx.size n:=Nat.lt_min.2 ⟨h0,hn⟩;have hcs:az (tx.toList.take (Nat.min tx.size n))=List.take (Nat.min tx.size n) (List.map (fun b=>Value.int .u8 b.toNat) tx.data.toList):=by
  rw[qi];unfold az;rw[List.map_take]
 have hcl:(az (tx.toList.take (Nat.min tx.size n))).length=Nat.min tx.size n:=by
  unfold az;rw[List.length_map,List.length_take,qi];exact Nat.min_eq_left hm
 obtain⟨m,hmm⟩:∃m,Nat.min tx.size n=m:=⟨_,rfl⟩;rw[hmm] at hm hm2 hm0 hcs hcl;have HMM:=Z hmm;have HCS:=Z hcs;have HCL:=Z hcl;have HKB:=Z hk;have HP:=Z hp;clear hcs hcl hk hp hmm;go_wp2_with (refine mf (cs:=az (tx.toList.take m)) rfl rfl HKB.1 (by rw[HMM.out];exact HCS.out) (by rw[HMM.out];exact HCL.out) (by rw[HCL.out];have:=HKB.2.1;simp;omega) ?_;refine Hid.out ?_);refine Z ?_;rw[HCL.out];refine fT (fun x=>Fr (fun k=>k=C.kb) w x∧x.heap[C.kb]? =some (.cells (K.take o++ (az (tx.toList.take m) ++K.drop (o+m))).toArray 5 (0,0))) ⟨⟨rfl,rfl,rfl,by simp,fun k _ hk=>setRow_other _ _ _ _ hk⟩,setRow_heap _ _ _ _ _ _ HKB.1⟩ ?_;intro x X;have p0:x.cell? ⟨C.pb,0,none⟩=some (.string tx):=Fr.cell X.1 (fun e=>hne e.symm) p0;have q0:x.frozen? ⟨C.pb,0,none⟩=false:=by rw[Fr.frozen X.1 (fun e=>hne e.symm) hpw];exact q0
 have hpx:C.pb<x.heap.size:=Nat.lt_of_lt_of_le hpw X.1.size;have HX:=Z X;clear X;have hmz:(m:Int)≤(tx.size:Int):=by omega
 go_wp2_with fail
 go_ret2
 have PX:PBlk C x tx (.slice none 0 0):=Fr.blk HX.1 (fun e=>hne e.symm) HP.out;refine⟨m,.slice none 0 0,tx.extract m tx.size,hm0,hm2,hm,rfl,?_,?_,.inl rfl,?_,?_⟩
 ·exact(HX.1.mono fun _ _ h=> .inl h).setIn _ (.inr rfl)
 ·unfold PBlk;rw[ag PX];rfl
 ·exact dA tx m
 ·rw[←HX.2];exact Below.heap_setCell _ _ _ _ hne
theorem rM(C:RC)(o n cp:Nat)(tx:ByteArray)(K:List Value)(w:World)(cb co cl cc:Nat)(hp:PBlk C w tx (.slice (some ⟨cb,co,none⟩) cl cc))(hc:CutsOk C w (.slice (some ⟨cb,co,none⟩) cl cc))(hk:oU C w K)(h0:0<tx.size)(hs:tx.size≤1000000)(hn:0<n)(hon:o+n≤4096):
  Calls prog 233 #[.pointer (some ⟨C.pb,0,none⟩),.slice (some ⟨C.kb,o,none⟩) n cp] w (jM C o n tx K w):=by
 have p0:=ab hp 0;have p1:=ab hp 1;have q0:=ae hp 0;have q1:=ae hp 1;have hpw:=af hp;simp only[show(#[Value.string tx,.slice (some ⟨cb,co,none⟩) cl cc,Value.bool C.fin]:Array Value)[0]? =some (.string tx) from rfl] at p0;simp only[show(#[Value.string tx,.slice (some ⟨cb,co,none⟩) cl cc,Value.bool C.fin]:Array Value)[1]? =some (.slice (some ⟨cb,co,none⟩) cl cc) from rfl] at p1;have h0':¬ (((tx.size:Nat):Int)=0):=by omega
 have hne:=C.n3;have HP:=Z hp;have HKB:=Z hk;have HC:=Z hc;have hcl2:cl≤cc∧cc≤maxLen∧(cb<C.bb∧cb<C.pb)∧cb≠C.kb∧cb≠C.pb∧(∀i,i<cl→∃z,w.cell? ⟨cb,co+i,none⟩=some (.int .i64 z)):=by
  rcases hc with h|⟨cb',co',cl',cc',h1,h2⟩
  ·cases h
  ·cases h1;exact h2
 obtain⟨hcc,hcm,e1,e2,e3,hz⟩:=hcl2;clear hc hp hk;by_cases hl:cl=0
 ·subst hl;go_enter func233,ntmps233;have hm:Nat.min tx.size n≤tx.size:=Nat.min_le_left tx.size n;have hm2:Nat.min tx.size n≤n:=Nat.min_le_right tx.size n;have hm0:0<Nat.min tx.size n:=Nat.lt_min.2 ⟨h0,hn⟩;have hcs:az (tx.toList.take (Nat.min tx.size n))=List.take (Nat.min tx.size n) (List.map (fun b=>Value.int .u8 b.toNat) tx.data.toList):=by
   rw[qi];unfold az;rw[List.map_take]
  have hcl:(az (tx.toList.take (Nat.min tx.size n))).length=Nat.min tx.size n:=by
   unfold az;rw[List.length_map,List.length_take,qi];exact Nat.min_eq_left hm
  obtain⟨m,hmm⟩:∃m,Nat.min tx.size n=m:=⟨_,rfl⟩;rw[hmm] at hm hm2 hm0 hcs hcl;have HMM:=Z hmm;have HCS:=Z hcs;have HCL:=Z hcl;clear hcs hcl hmm hz;go_wp2_with (refine mf (cs:=az (tx.toList.take m)) rfl rfl HKB.1 (by rw[HMM.out];exact HCS.out) (by rw[HMM.out];exact HCL.out) (by rw[HCL.out];have:=HKB.2.1;simp;omega) ?_;refine Hid.out ?_);refine Z ?_;rw[HCL.out];refine fT (fun x=>Fr (fun k=>k=C.kb) w x∧x.heap[C.kb]? =some (.cells (K.take o++ (az (tx.toList.take m) ++K.drop (o+m))).toArray 5 (0,0))) ⟨⟨rfl,rfl,rfl,by simp,fun k _ hk=>setRow_other _ _ _ _ hk⟩,setRow_heap _ _ _ _ _ _ HKB.1⟩ ?_;intro x X;have p0:x.cell? ⟨C.pb,0,none⟩=some (.string tx):=Fr.cell X.1 (fun e=>hne e.symm) p0;have q0:x.frozen? ⟨C.pb,0,none⟩=false:=by rw[Fr.frozen X.1 (fun e=>hne e.symm) hpw];exact q0
  have hpx:C.pb<x.heap.size:=Nat.lt_of_lt_of_le hpw X.1.size;have HX:=Z X;clear X;clear p1 q1;have hmz:(m:Int)≤(tx.size:Int):=by omega
  go_wp2_with fail
  go_ret2
  have PX:PBlk C x tx (.slice (some ⟨cb,co,none⟩) 0 cc):=Fr.blk HX.1 (fun e=>hne e.symm) HP.out;refine⟨m,_,tx.extract m tx.size,hm0,hm2,hm,rfl,?_,?_,(HC.keep (HX.1.mono fun _ _ h=> .inr (.inl h))).keep ((Fr.refl x).setIn _ (.inr (.inr rfl))),?_,?_⟩
  ·exact(HX.1.mono fun _ _ h=> .inl h).setIn _ (.inr rfl)
  ·unfold PBlk;rw[ag PX];rfl
  ·exact dA tx m
  ·rw[←HX.2];exact Below.heap_setCell _ _ _ _ hne
 ·obtain⟨z,hz0⟩:=hz 0 (by omega);rw[Nat.add_zero] at hz0;have hlz:((cl:Nat):Int) >0:=by omega
  have hlz1:(1:Int)≤((cl:Nat):Int):=by omega
  have hlz2:((cl:Nat):Int)≤((cc:Nat):Int):=by omega
  clear hz;obtain⟨p,hp1,hp2,hp3⟩:∃p:Nat,min (tx.size:Int) (max z 1)=(p:Int)∧0<p∧p≤tx.size:=⟨(min (tx.size:Int) (max z 1)).toNat,by omega,by omega,by omega⟩;have hes:(tx.extract 0 p).size=p:=by rw[←aR,eG,List.length_take,aR];exact Nat.min_eq_left hp3
  have hm:Nat.min p n≤p:=Nat.min_le_left p n;have hm2:Nat.min p n≤n:=Nat.min_le_right p n;have hm0:0<Nat.min p n:=Nat.lt_min.2 ⟨hp2,hn⟩;have hcs:az (tx.toList.take (Nat.min p n))=List.take (Nat.min p n) (List.map (fun b=>Value.int .u8 b.toNat) (tx.extract 0 p).data.toList):=by
   rw[←qi,eG,←List.map_take,List.take_take,Nat.min_eq_left hm];rfl
  have hcl:(az (tx.toList.take (Nat.min p n))).length=Nat.min p n:=by
   unfold az;rw[List.length_map,List.length_take,aR];exact Nat.min_eq_left (Nat.le_trans hm hp3)
  obtain⟨m,hmm⟩:∃m,Nat.min p n=m:=⟨_,rfl⟩;rw[hmm] at hm hm2 hm0 hcs hcl;have HMM:=Z hmm;have HCS:=Z hcs;have HCL:=Z hcl;have HES:=Z hes;clear hcs hcl hmm hes;go_enter func233,ntmps233;go_wp2_with (refine mf (cs:=az (tx.toList.take m)) rfl rfl ((Below.heap_setCell _ _ _ _ hne).trans HKB.1) (by rw[HES.out,HMM.out];exact HCS.out) (by rw[HES.out,HMM.out];exact HCL.out) (by rw[HCL.out];have:=HKB.2.1;simp;omega) ?_;refine Hid.out ?_)
  ·refine Z ?_;rw[HCL.out];refine fT (fun x=>Hid (Fr (fun k=>k=C.kb∨k=C.pb) w x∧CutsOk C w (.slice (some ⟨cb,co,none⟩) (cl-1) 0)∧PBlk C x tx (.slice (some ⟨cb,co,none⟩) (cl-1) 0)∧x.heap[C.kb]? =some (.cells (K.take o++ (az (tx.toList.take m) ++K.drop (o+m))).toArray 5 (0,0)))) (Z ⟨((Fr.refl w).setIn _ (.inr rfl)).trans ⟨rfl,rfl,rfl,by simp,fun k _ hk=>setRow_other _ _ _ _ (fun e=>hk (.inl e))⟩,.inr ⟨cb,co,cl-1,0,rfl,by omega,Nat.zero_le _,e1,e2,e3,fun i hi=>by omega⟩,by(unfold PBlk;rw[setRow_other _ _ _ _ hne.symm,ag HP.out];rfl),setRow_heap _ _ _ _ _ _ ((Below.heap_setCell _ _ _ _ hne).trans HKB.1)⟩) ?_;intro x X;have p0:x.cell? ⟨C.pb,0,none⟩=some (.string tx):=ab X.2.2.1 0;have q0:x.frozen? ⟨C.pb,0,none⟩=false:=ae X.2.2.1 0;have hpx:C.pb<x.heap.size:=af X.2.2.1;have hmz:(m:Int)≤(tx.size:Int):=by omega
   clear hz0 p1 q1;go_wp2_with fail
   go_ret2
   refine⟨m,.slice (some ⟨cb,co,none⟩) (cl-1) 0,tx.extract m tx.size,hm0,hm2,by omega,rfl,X.1.setIn _ (.inr rfl),?_,(X.2.1.keep (X.1.mono fun _ _ h=> .inr h)).keep ((Fr.refl x).setIn _ (.inr (.inr rfl))),dA tx m,(Below.heap_setCell _ _ _ _ hne).trans X.2.2.2⟩;unfold PBlk;rw[ag X.2.2.1];rfl
  ·refine Z ?_;rw[HCL.out];refine fT (fun x=>Hid (Fr (fun k=>k=C.kb∨k=C.pb) w x∧CutsOk C w (.slice (some ⟨cb,co+1,none⟩) (cl-1) (cc-1))∧PBlk C x tx (.slice (some ⟨cb,co+1,none⟩) (cl-1) (cc-1))∧x.heap[C.kb]? =some (.cells (K.take o++ (az (tx.toList.take m) ++K.drop (o+m))).toArray 5 (0,0)))) (Z ⟨((Fr.refl w).setIn _ (.inr rfl)).trans ⟨rfl,rfl,rfl,by simp,fun k _ hk=>setRow_other _ _ _ _ (fun e=>hk (.inl e))⟩,HC.tail (by omega),by(unfold PBlk;rw[setRow_other _ _ _ _ hne.symm,ag HP.out];rfl),setRow_heap _ _ _ _ _ _ ((Below.heap_setCell _ _ _ _ hne).trans HKB.1)⟩) ?_;intro x X;have p0:x.cell? ⟨C.pb,0,none⟩=some (.string tx):=ab X.2.2.1 0;have q0:x.frozen? ⟨C.pb,0,none⟩=false:=ae X.2.2.1 0;have hpx:C.pb<x.heap.size:=af X.2.2.1;have hmz:(m:Int)≤(tx.size:Int):=by omega
   clear hz0 p1 q1;go_wp2_with fail
   go_ret2
   refine⟨m,.slice (some ⟨cb,co+1,none⟩) (cl-1) (cc-1),tx.extract m tx.size,hm0,hm2,by omega,rfl,X.1.setIn _ (.inr rfl),?_,(X.2.1.keep (X.1.mono fun _ _ h=> .inr h)).keep ((Fr.refl x).setIn _ (.inr (.inr rfl))),dA tx m,(Below.heap_setCell _ _ _ _ hne).trans X.2.2.2⟩;unfold PBlk;rw[ag X.2.2.1];rfl
theorem ke{P:Program}{ops:Array Oper}{o:Oper}{a:Act}{w:World}{K:Act→World→Prop}{Q:Exit→Act→World→Prop}{E:Prop}(hgd:o.guard=none)(d s:Operand)(dT sT:TypeId)
  (ho:o.op= .call {callee:= .builtin .copy,args:=#[d,s],argTypes:=#[dT,sT]}) (elem:TypeId) (hu:P.underlying dT=some (.slice elem)) (hsz:(P.info? elem).map (·.size)=some 1)
  (dp sp:Option Addr) (dLen dCap sLen sCap:Nat) (hd:a.eval d= .slice dp dLen dCap) (hs:a.eval s= .slice sp sLen sCap)
  (g off:Nat) (cur:List Value) (t:TypeId) (hg:w.heap[g]? =some (.cells cur.toArray t (0,0))) (cs:List Value) (hn:cs.length=Nat.min sLen dLen)
  (hpos:0<cs.length→dp=some ⟨g,off,none⟩∧∃ad,sp=some ad∧∀j v,cs[j]? =some v→w.cell? (ad.add j)=some v)
  (hfit:off+cs.length≤cur.length) (h1:∀v∈cs,v.oneCell'=true)
  (h:∀w',w'.heap[g]? =some (.cells (cur.take off++ (cs++cur.drop (off+cs.length))).toArray t (0,0))→Fr (· =g) w w'→K (a.put o.dst (goInt cs.length)) w'):
  if Region.wanted o (yielded ops a.tmps)=true then Oper.wp P o a w K Q else E:=by
 have hw:Region.wanted o (yielded ops a.tmps)=true:=by simp[Region.wanted,hgd]
 rw[if_pos hw];by_cases h0:cs.length=0
 ·obtain rfl:cs=[]:=List.eq_nil_of_length_eq_zero h0;have hrun:=run_copy_none (P:=P) w dT sT o.type elem dp sp dLen dCap sLen sCap hu hsz (by simpa using hn.symm);unfold Oper.wp;simp[execOp,ho,resolve,invoke,builtin,hd,hs,hrun,Result.andThen];exact h w (by simpa using hg) (Fr.refl w)
 ·obtain⟨rfl,ad,rfl,hsrc⟩:=hpos (by omega);have hrun:=run_copy_row (P:=P) w dT sT o.type elem g off dLen dCap ad sLen sCap cur.toArray t cs hu hsz hg hn hsrc (by simpa using hfit) h1;unfold Oper.wp;simp[execOp,ho,resolve,invoke,builtin,hd,hs,hrun,Result.andThen];exact h _ (by simpa using setRow_heap w g _ _ t _ hg) ⟨rfl,rfl,rfl,by simp,fun k _ hk=>setRow_other w g k _ hk⟩
theorem rN(C:RC)(o n cp:Nat)(tx:ByteArray)(cv:Value)(K:List Value)(w:World)(hp:PBlk C w tx cv)(hc:CutsOk C w cv)(hk:oU C w K)(h0:0<tx.size)(hs:tx.size≤1000000)(hn:0<n)(hon:o+n≤4096):
  Calls prog 233 #[.pointer (some ⟨C.pb,0,none⟩),.slice (some ⟨C.kb,o,none⟩) n cp] w (jM C o n tx K w):=by
 rcases hc with h|⟨cb,co,cl,cc,h,h'⟩
 ·subst h;exact rK C o n cp tx K w hp hk h0 hs hn hon
 ·subst h;exact rM C o n cp tx K w cb co cl cc hp (.inr ⟨cb,co,cl,cc,rfl,h'⟩) hk h0 hs hn hon
def RS(C:RC)(k:Nat):Prop:=k=C.bb∨k=C.kb∨k=C.pb
structure BR(C:RC)(r e:Nat)(buf:List UInt8)(tx:ByteArray)(ev:Value)(w:World):Prop where
 bblk:∃lb ls:Int,w.heap[C.bb]? =some (.cells #[.slice (some ⟨C.kb,0,none⟩) 4096 4096,.iface 66 (.pointer (some ⟨C.pb,0,none⟩)),.int .i64 r,.int .i64 e,ev,.int .i64 lb,.int .i64 ls] 153 (0,0))
 kblk:∃K,oU C w K∧(K.drop r).take buf.length=az buf
 pblk:∃cv,PBlk C w tx cv∧CutsOk C w cv
 len:e=r+buf.length
 fit:e≤4096
 sz:tx.size≤1000000
 err:ev= .nilIface∨(tx.size=0∧ErrV C ev w)
 glob:Glob C w
theorem Glob.fr{C:RC}{w w':World}(h:Glob C w)(f:Fr (RS C) w w'):Glob C w':=by
 have hn:∀k,k<24→¬RS C k:=by
  intro k hk e;have:=C.lo;rcases e with e|e|e<;>omega
 obtain⟨cs,T,he⟩:=h.ebl;have heb:¬RS C C.eb:=by
  intro e;have:=C.el;rcases e with e|e|e<;>omega
 exact⟨Fr.cell f (hn 0 (by omega)) h.eof,⟨cs,T,f.blk heb he⟩,⟨fun c hc=>Fr.cell f (hn 7 (by omega)) (h.tabs.1 c hc),fun i hi=>⟨Fr.cell f (hn 8 (by omega)) (h.tabs.2 i hi).1,Fr.cell f (hn 8 (by omega)) (h.tabs.2 i hi).2⟩⟩⟩
theorem BR.keep{C:RC}{r e:Nat}{buf:List UInt8}{tx:ByteArray}{ev:Value}{w w':World}(h:BR C r e buf tx ev w)(k:Keep w w'):BR C r e buf tx ev w':=by
 obtain⟨lb,ls,hb⟩:=h.bblk;obtain⟨K,hK,hK2⟩:=h.kblk;obtain⟨cv,hp,hc⟩:=h.pblk;exact⟨⟨lb,ls,k.blk hb⟩,⟨K,⟨k.blk hK.1,hK.2⟩,hK2⟩,⟨cv,k.blk hp,hc.keep k.fr⟩,h.len,h.fit,h.sz,h.err.imp id fun e=>⟨e.1,e.2.keep k⟩,h.glob.fr k.fr⟩
theorem BR.facts{C:RC}{r e:Nat}{buf:List UInt8}{tx:ByteArray}{ev:Value}{w:World}(h:BR C r e buf tx ev w):
  C.bb<w.heap.size∧C.kb<w.heap.size∧C.pb<w.heap.size∧
  w.cell? ⟨C.bb,0,none⟩=some (.slice (some ⟨C.kb,0,none⟩) 4096 4096)∧w.cell? ⟨C.bb,1,none⟩=some (.iface 66 (.pointer (some ⟨C.pb,0,none⟩)))∧
  w.cell? ⟨C.bb,2,none⟩=some (.int .i64 r)∧w.cell? ⟨C.bb,3,none⟩=some (.int .i64 e)∧w.cell? ⟨C.bb,4,none⟩=some ev∧
  w.frozen? ⟨C.bb,2,none⟩=false∧w.frozen? ⟨C.bb,3,none⟩=false∧w.frozen? ⟨C.bb,4,none⟩=false∧w.frozen? ⟨C.bb,5,none⟩=false∧w.frozen? ⟨C.bb,6,none⟩=false:=by
 obtain⟨lb,ls,hb⟩:=h.bblk;obtain⟨K,hK,hK2⟩:=h.kblk;obtain⟨cv,hp,hc⟩:=h.pblk;exact⟨af hb,af hK.1,af hp,ab hb 0,ab hb 1,ab hb 2,ab hb 3,ab hb 4,ae hb 2,ae hb 3,ae hb 4,ae hb 5,ae hb 6⟩
theorem BR.tag{C:RC}{r e:Nat}{buf:List UInt8}{tx:ByteArray}{ev:Value}{w:World}(h:BR C r e buf tx ev w)(k:Nat)(cs:Array Value)(hk:k=C.bb):w.heap[k]? ≠some (.cells cs 174 (0,0)):=by
 obtain⟨lb,ls,hb⟩:=h.bblk;subst hk;rw[hb];intro e;simp at e
end Go.Proofs.YtnclklfhjbkjhaaGreatDoor
