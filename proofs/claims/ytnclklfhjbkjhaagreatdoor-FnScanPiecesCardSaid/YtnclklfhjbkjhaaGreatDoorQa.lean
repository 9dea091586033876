/- Part of the proof: Q0 Q1 Q2 V0. -/
import Derived.Test.YtnclklfhjbkjhaaGreatDoorJe
import Derived.Test.YtnclklfhjbkjhaaGreatDoorOa
import Derived.Test.YtnclklfhjbkjhaaGreatDoorRows
import Derived.Lib.LaidU8T
import Derived.Stop.LaidErr
import Derived.LaidMore
import Derived.Lay
import Derived.LaidHandle
import Derived.LaidLaws
set_option maxRecDepth 1000000
set_option maxHeartbeats 40000000
set_option linter.unusedSimpArgs false
namespace Go.Proofs.YtnclklfhjbkjhaaGreatDoor
open Go.RowKit Go.Lib
def ik:List (String×DataW Unit):=Rows.fnScanRow.laid
theorem yj:Rows.fnScanPiecesRow.laid=ik:=rfl
theorem su{l:List (String×DataW Unit)}{w:World}(h:laidMetH Tryz.prog l w):laidMet Tryz.prog (l.filter fun x=>x.2.handleName?.isNone) w:=by
 unfold laidMetH at h;generalize hfl:(l.filter fun x=>x.2.handleName?.isSome)=fl at h;cases fl with
 |nil=>
  have e:(l.filter fun x=>x.2.handleName?.isNone)=l:=by
   rw[List.filter_eq_self];intro x hx;have:=(List.filter_eq_nil_iff.1 hfl) x hx;cases hn:x.2.handleName? with
   |none=>rfl
   |some s=>rw[hn] at this;exact absurd rfl this
  rw[e];exact h
 |cons a r=>exact h.1
def VarAt(w:World)(n:String)(d:DataW Unit):Prop:=
 ∃g t cs fuel p,Tryz.prog.globalNamed n=some g∧(Tryz.prog.globals[g]?).map (·.type)=some t∧w.var? Tryz.prog n=some cs∧DataW.trod (fun _=>()) Tryz.prog w 0 (fun _=>true) false fuel t cs.toList=some (d,p)∧
  ∀b off,(MemPlace.cell b off∈MemPlace.row ⟨g,0,none⟩ cs.size∨MemPlace.cell b off∈p)→(∃c t,w.heap[b]? =some (.cells c t (0,0)))∧∀u v,w.cell? ⟨b,off,none⟩=some (.iface u v)→Value.okWide Tryz.prog w .any 0 u v
theorem oZ{w:World}:∀ {l:List (String×DataW Unit)} {ps:List MemPlace},DataW.LaidVars Tryz.prog w l ps→(∀b off,MemPlace.cell b off∈ps→(∃c t,w.heap[b]? =some (.cells c t (0,0)))∧∀u v,w.cell? ⟨b,off,none⟩=some (.iface u v)→Value.okWide Tryz.prog w .any 0 u v)→∀n d,(n,d)∈l→VarAt w n d
 | [],_,_,_,_,_,hm=>by cases hm
 |(n',d') ::r,ps,h,hp,n,d,hm=>by
  obtain⟨g,t,cs,fuel,p,q,h1,h2,h3,h4,h5,rfl⟩:=h;rcases List.mem_cons.1 hm with e|e
  ·cases e;exact⟨g,t,cs,fuel,p,h1,h2,h3,h4,fun b off hb=>hp b off (by rcases hb with hb|hb<;>simp[hb])⟩
  ·exact oZ h5 (fun b off hb=>hp b off (by simp[hb])) n d e
theorem db{w:World}{l:List (String×DataW Unit)}(h:laidMet Tryz.prog l w){n:String}{d:DataW Unit}(hm:(n,d)∈l):VarAt w n d:=
 let⟨_,hv,_,hp⟩:=h
 oZ hv hp n d hm
theorem VarAt.open{w:World}{n:String}{d:DataW Unit}(h:VarAt w n d){g t:Nat}(hg:Tryz.prog.globalNamed n=some g)(ht:(Tryz.prog.globals[g]?).map (·.type)=some t):
  ∃cs fuel p,w.var? Tryz.prog n=some cs∧(∀i,w.cell? ⟨g,i,none⟩=cs[i]?)∧DataW.trod (fun _=>()) Tryz.prog w 0 (fun _=>true) false fuel t cs.toList=some (d,p)∧
   ∀b off,(MemPlace.cell b off∈MemPlace.row ⟨g,0,none⟩ cs.size∨MemPlace.cell b off∈p)→(∃c t,w.heap[b]? =some (.cells c t (0,0)))∧∀u v,w.cell? ⟨b,off,none⟩=some (.iface u v)→Value.okWide Tryz.prog w .any 0 u v:=by
 obtain⟨g',t',cs,fuel,p,h1,h2,h3,h4,h5⟩:=h;obtain rfl:=Option.some.inj (hg.symm.trans h1);obtain rfl:=Option.some.inj (ht.symm.trans h2);exact⟨cs,fuel,p,h3,fun i=>World.var?_cell hg h3 i,h4,h5⟩
theorem wk:Tryz.prog.underlying 174=some (.struct #[{name:= "s",type:=9,offset:=0,embedded:=false,tag:= "",pkgPath:= "errors",byteOffset:=0}]):=by kernel_rfl
theorem VarAt.sentinel{w:World}{n:String}{text:List UInt8}(h:VarAt w n (.iface "*errors.errorString" (.ptr (.agg [.lit (.string text)])))){g:Nat}(hg:Tryz.prog.globalNamed n=some g)(ht:(Tryz.prog.globals[g]?).map (·.type)=some 63):
  ∃b o cs T,w.cell? ⟨g,0,none⟩=some (.iface 172 (.pointer (some ⟨b,o,none⟩)))∧w.heap[b]? =some (.cells cs T (0,0)):=by
 obtain⟨cs,fuel,p,h1,h2,h3,h4⟩:=h.open hg ht;obtain⟨l⟩:=cs;have ok:∀u v,l=[.iface u v]→Value.okWide Tryz.prog w .any 0 u v:=fun u v e=>by
  subst e;exact(h4 g 0 (.inl (by simp[MemPlace.row]))).2 u v (by rw[h2];rfl)
 have hrow:∀u,Tryz.prog.typeName? 3 u=some "*errors.errorString" →u=172:=fun u hu=>typeName_ptr_named (nm:= "errors.errorString") (by kernel_rfl) (by kernel_rfl) (by decide) u hu
 obtain⟨a,s,e1,e2,-,-,rfl⟩:=errorString_of_trod Tryz.underlying63 hrow (by kernel_rfl) wk rfl rfl Tryz.underlying9 (by kernel_rfl) (by kernel_rfl) h3 ok;obtain⟨b,o,sp⟩:=a;have hsp:=cell_spot e2;subst hsp;have e1':l=[.iface 172 (.pointer (some ⟨b,o,none⟩))]:=e1;subst e1';obtain⟨⟨c,T,hb⟩,-⟩:=h4 b o (.inr (by simp[MemPlace.row]));exact⟨b,o,c,T,by rw[h2];rfl,hb⟩
end Go.Proofs.YtnclklfhjbkjhaaGreatDoor
namespace Go.Proofs.YtnclklfhjbkjhaaGreatDoor
open Go.RowKit Go.Lib
section
variable {w:World} {fuel t e:Nat} {cs:List Value} {ds:List (DataW Unit)} {p:List MemPlace}
noncomputable abbrev trodU(w:World)(fuel t:Nat)(cs:List Value):=DataW.trod (fun _=>()) Tryz.prog w 0 (fun _=>true) false fuel t cs
theorem struct_part{fs:Array Field}(ht:Tryz.prog.underlying t=some (.struct fs))(h:trodU w fuel t cs=some (.agg ds,p))(i:Nat)(f:Field)(hf:fs[i]? =some f):∃n d q,ds[i]? =some d∧trodU w n f.type ((cs.drop f.offset).take (Tryz.prog.cellsOf f.type))=some (d,q):=by
 obtain⟨xs,n,-,hx,-,hl,hall⟩:=DataW.trod_struct ht h;have hi:=(Array.getElem?_eq_some_iff.1 hf).1;have hxi:xs[i]? =some xs[i]:=List.getElem?_eq_getElem (by omega);have hds:ds=xs.map (·.1):=by
  have:=congrArg Prod.fst hx;simpa using this
 exact⟨n,xs[i].1,xs[i].2,by rw[hds,List.getElem?_map,hxi];rfl,(hall i f hf).trans hxi⟩
theorem int_part{k:IntKind}{d:DataW Unit}{q:List MemPlace}{o n:Nat}(hu:Tryz.prog.underlying t=some (.int k))(hc:Tryz.prog.cellsOf t=1)(h:trodU w n t ((cs.drop o).take (Tryz.prog.cellsOf t))=some (d,q)):∃z,d= .lit (.int k z)∧cs[o]? =some (.int k z):=by
 obtain⟨z,h1,h2,-⟩:=DataW.trod_int hu h;rw[hc] at h1;have h3:=congrArg (·[0]?) h1;exact⟨z,congrArg Prod.fst h2,by simpa[List.getElem?_take,List.getElem?_drop] using h3⟩
theorem str_part{d:DataW Unit}{q:List MemPlace}{o n:Nat}(hu:Tryz.prog.underlying t=some .string)(hc:Tryz.prog.cellsOf t=1)(h:trodU w n t ((cs.drop o).take (Tryz.prog.cellsOf t))=some (d,q)):∃s:ByteArray,d= .lit (.string s.data.toList)∧cs[o]? =some (.string s):=by
 obtain⟨z,h1,h2,-⟩:=DataW.trod_string hu h;rw[hc] at h1;have h3:=congrArg (·[0]?) h1;exact⟨z,congrArg Prod.fst h2,by simpa[List.getElem?_take,List.getElem?_drop] using h3⟩
theorem slice_parts(ht:Tryz.prog.underlying t=some (.slice e))(h0:0<Tryz.prog.cellsOf e)(hl:0<ds.length)(h:trodU w fuel t cs=some (.slice ds [],p)):
  ∃b o,cs=[.slice (some ⟨b,o,none⟩) ds.length ds.length]∧∀i d,ds[i]? =some d→∃cs' n q,cs'.length=Tryz.prog.cellsOf e∧(∀j,j<Tryz.prog.cellsOf e→w.cell? ⟨b,o+i*Tryz.prog.cellsOf e+j,none⟩=cs'[j]?)∧trodU w n e cs'=some (d,q):=by
 rcases DataW.trod_slice ht h with⟨-,hx⟩|⟨a,len,cap,elems,rest,n,-,hcs,hx,-,hlc,-,hlen,hel,hsp,-⟩
 ·simp at hx
 ·simp only[Prod.mk.injEq,DataW.slice.injEq] at hx;obtain⟨⟨rfl,hr⟩,-⟩:=hx;have hr0:rest.length=0:=by
   have:=congrArg List.length hr;simpa using this.symm
  have hcap:=(hsp rfl).1;have el:(elems.map (·.1)).length=len:=by simpa using hlen
  have hcl:cap=len:=by omega
  subst hcl;have key:∀i d,(elems.map (·.1))[i]? =some d→∃cs' n q,cs'.length=Tryz.prog.cellsOf e∧(∀j,j<Tryz.prog.cellsOf e→w.cell? ((a.add (i*Tryz.prog.cellsOf e)).add j)=cs'[j]?)∧trodU w n e cs'=some (d,q):=fun i d hd=>by
   have hi:i<cap:=by rw[←el];exact(List.getElem?_eq_some_iff.1 hd).1
   have hE:=hel i hi;rw[List.getElem?_map] at hd;cases hy:elems[i]? with
   |none=>simp[hy] at hd
   |some y=>
    rw[hy] at hE hd;simp only[Option.map_some,Option.some.injEq] at hd;simp only[Option.bind_eq_some_iff] at hE;obtain⟨c1,hc1,hy1⟩:=hE;obtain⟨-,g1,g2⟩:=World.cells?_some hc1;exact⟨c1,n,y.2,g1,g2,by rw[←hd];exact hy1⟩
  obtain⟨b,o,sp⟩:=a;have hs:sp=none:=by
   obtain⟨cs',n',q,g1,g2,-⟩:=key 0 ((elems.map (·.1))[0]) (List.getElem?_eq_getElem hl);have g:=g2 0 h0;rw[List.getElem?_eq_getElem (by omega)] at g;have g':w.cell? ⟨b,o,sp⟩=some (cs'[0]'(by omega)):=by simpa[Addr.add] using g
   exact cell_spot g'
  subst hs;exact⟨b,o,by rw[el];exact hcs,fun i d hd=>by
   obtain⟨cs',n',q,g1,g2,g3⟩:=key i d hd;exact⟨cs',n',q,g1,fun j hj=>by
    have h:=g2 j hj
    rwa [Go.Lib.addr_add,Go.Lib.addr_add] at h,g3⟩⟩
end
end Go.Proofs.YtnclklfhjbkjhaaGreatDoor
namespace Go.Proofs.YtnclklfhjbkjhaaGreatDoor
open Go.RowKit Go.Lib Go.Shelf
theorem rl{w:World}{fuel t:Nat}{cs:List Value}{x:DataW Unit×List MemPlace}{k:FloatKind}(ht:Tryz.prog.underlying t=some (.float k))(h:trodU w fuel t cs=some x):∃n,cs=[.float k n]∧x=(.lit (.float k n),[]):=by
 unfold trodU at h;cases fuel with
 |zero=>simp[DataW.trod] at h
 |succ n=>
  unfold DataW.trod at h;rw[ht] at h;split at h<;>simp_all
theorem fW{w:World}{fuel t:Nat}{cs:List Value}{x:DataW Unit×List MemPlace}{fs:Array Field}(ht:Tryz.prog.underlying t=some (.struct fs))(h:trodU w fuel t cs=some x)(i:Nat)(f:Field)(hf:fs[i]? =some f):∃n d q,trodU w n f.type ((cs.drop f.offset).take (Tryz.prog.cellsOf f.type))=some (d,q):=by
 obtain⟨xs,n,-,hx,-,hl,hall⟩:=DataW.trod_struct ht h;have hi:=(Array.getElem?_eq_some_iff.1 hf).1;exact⟨n,xs[i].1,xs[i].2,(hall i f hf).trans (List.getElem?_eq_getElem (by omega))⟩
theorem rS:(Rows.laid_internal_strconv_float64pow10:DataW Unit)= .slice (p10f.toList.map fun x=> .lit (.float .f64 x)) []:=by kernel_rfl
theorem yI{w:World}(h1:VarAt w "internal/strconv.optimize" Rows.laid_internal_strconv_optimize)(h2:VarAt w "internal/strconv.float64info" Rows.laid_internal_strconv_float64info)(h3:VarAt w "internal/strconv.float64pow10" Rows.laid_internal_strconv_float64pow10):FG w:=by
 obtain⟨c1,n1,p1,-,g1,r1,-⟩:=h1.open (g:=14) (t:=4) (by kernel_rfl) (by kernel_rfl);obtain⟨c2,n2,p2,-,g2,r2,-⟩:=h2.open (g:=15) (t:=254) (by kernel_rfl) (by kernel_rfl);rw[rS] at h3;obtain⟨c3,n3,p3,-,g3,r3,-⟩:=h3.open (g:=18) (t:=288) (by kernel_rfl) (by kernel_rfl);obtain⟨b,hb,hx⟩:=DataW.trod_bool Tryz.underlying4 r1;have hbt:b=true:=by
  have:=congrArg Prod.fst hx;cases this;rfl
 obtain⟨m0,d0,q0,e0,s0⟩:=struct_part Tryz.underlying254 r2 0 _ rfl;obtain⟨m1,d1,q1,e1,s1⟩:=struct_part Tryz.underlying254 r2 1 _ rfl;obtain⟨m2,d2,q2,e2,s2⟩:=struct_part Tryz.underlying254 r2 2 _ rfl;obtain⟨z0,f0,k0⟩:=int_part (k:= .u64) (by kernel_rfl) (by kernel_rfl) s0;obtain⟨z1,f1,k1⟩:=int_part (k:= .u64) (by kernel_rfl) (by kernel_rfl) s1;obtain⟨z2,f2,k2⟩:=int_part (k:= .i64) (by kernel_rfl) (by kernel_rfl) s2;obtain⟨B,o,hc,hel⟩:=slice_parts Tryz.underlying288 (by decide+kernel) (by decide) r3;have hlen:(p10f.toList.map fun x=>(DataW.lit (.float .f64 x):DataW Unit)).length=23:=by kernel_rfl
 rw[hlen] at hc;refine⟨?_,?_,?_,?_,B,o,?_,fun k hk=>?_⟩
 ·rw[g1,←Array.getElem?_toList,hb,hbt];rfl
 ·rw[g2,←Array.getElem?_toList];cases e0;cases f0;exact k0
 ·rw[g2,←Array.getElem?_toList];cases e1;cases f1;exact k1
 ·rw[g2,←Array.getElem?_toList];cases e2;cases f2;exact k2
 ·rw[g3,←Array.getElem?_toList,hc];rfl
 ·have hk2:k<p10f.size:=hk;obtain⟨cs',n,q,l1,l2,l3⟩:=hel k (.lit (.float .f64 (p10f.getD k 0))) (by
   rw[List.getElem?_map,Array.getElem?_toList,Array.getD_eq_getD_getElem?,Array.getElem?_eq_getElem hk2];rfl)
  obtain⟨y,hy,hx⟩:=rl Tryz.underlying179 l3;have hc1:Tryz.prog.cellsOf 179=1:=by kernel_rfl
  have h:=l2 0 (by rw[hc1];decide);rw[hc1,Nat.mul_one,Nat.add_zero,hy] at h;have hz:=congrArg Prod.fst hx;cases hz;exact h
theorem yy{w:World}(h:VarAt w "internal/strconv.pow10Tab" Rows.laid_internal_strconv_pow10Tab):PT w:=by
 obtain⟨c1,n1,p1,-,g1,r1,-⟩:=h.open (g:=19) (t:=296) (by kernel_rfl) (by kernel_rfl);have hc:Tryz.prog.cellsOf 295=2:=by kernel_rfl
 intro k hk;obtain⟨n2,d,q,-,r2⟩:=array_elem Tryz.underlying296 r1 (k/2) (by omega);rw[hc] at r2;have hw:∀ (j:Nat) (f:Field),(j=0∨j=1)→f.offset=j→Tryz.prog.underlying f.type=some (.int .u64)→Tryz.prog.cellsOf f.type=1→(∃m d q,trodU w m f.type ((((c1.toList.drop (k/2*2)).take 2).drop f.offset).take (Tryz.prog.cellsOf f.type))=some (d,q))→∃x,c1[k/2*2+j]? =some (.int .u64 x):=by
  rintro j f hj ho hu h1 ⟨m,d,q,hr⟩;obtain⟨z,-,hz⟩:=int_part hu h1 hr;refine⟨z,?_⟩;rw[ho,List.getElem?_take,List.getElem?_drop,Array.getElem?_toList,if_pos (by omega)] at hz;exact hz
 rcases Nat.mod_two_eq_zero_or_one k with hm|hm
 ·obtain⟨x,hx⟩:=hw 0 _ (.inl rfl) rfl (by kernel_rfl) (by kernel_rfl) (fW Tryz.underlying295 r2 0 _ rfl);exact⟨x,by rw[g1,←hx];congr 1;omega⟩
 ·obtain⟨x,hx⟩:=hw 1 _ (.inr rfl) rfl (by kernel_rfl) (by kernel_rfl) (fW Tryz.underlying295 r2 1 _ rfl);exact⟨x,by rw[g1,←hx];congr 1;omega⟩
theorem uM:Rows.laid_internal_strconv_leftcheats= .slice (Go.Pinned.cheatRows.map fun x=> .agg [.lit (.int .i64 x.1),.lit (.string x.2)]) []:=rfl
theorem sH:(Go.Pinned.cheatRows.map fun x=>(.agg [.lit (.int .i64 x.1),.lit (.string x.2)]:DataW Unit)).length=61:=by kernel_rfl
def pwL:List Nat:=[1,3,6,9,13,16,19,23,26]
theorem un:(Rows.laid_internal_strconv_powtab:DataW Unit)= .slice (pwL.map fun(x:Nat)=> .lit (.int .i64 (x:Int))) []:=by kernel_rfl
theorem yE{w:World}(h1:VarAt w "internal/strconv.leftcheats" Rows.laid_internal_strconv_leftcheats)(h2:VarAt w "internal/strconv.powtab" Rows.laid_internal_strconv_powtab):LT w:=by
 rw[uM] at h1;rw[un] at h2;obtain⟨c1,n1,p1,-,g1,r1,-⟩:=h1.open (g:=21) (t:=307) (by kernel_rfl) (by kernel_rfl);obtain⟨c2,n2,p2,-,g2,r2,-⟩:=h2.open (g:=17) (t:=40) (by kernel_rfl) (by kernel_rfl);have hc:Tryz.prog.cellsOf 306=2:=by kernel_rfl
 have hc3:Tryz.prog.cellsOf 3=1:=by kernel_rfl
 obtain⟨B,o,hb,hel⟩:=slice_parts Tryz.underlying307 (by rw[hc];decide) (by rw[sH];decide) r1;obtain⟨B2,o2,hb2,hel2⟩:=slice_parts Tryz.underlying40 (by rw[hc3];decide) (by decide) r2;rw[sH] at hb;refine⟨⟨B,o,?_,fun k k1 k2=>?_⟩,B2,o2,?_,fun k hk=>?_⟩
 ·rw[g1,←Array.getElem?_toList,hb];rfl
 ·obtain⟨x,hx,hok⟩:=qR k1 k2;obtain⟨cs',n,q,l1,l2,l3⟩:=hel k (.agg [.lit (.int .i64 x.1),.lit (.string x.2)]) (by rw[List.getElem?_map,hx];rfl);obtain⟨m0,d0,q0,e0,s0⟩:=struct_part Tryz.underlying306 l3 0 _ rfl;obtain⟨m1,d1,q1,e1,s1⟩:=struct_part Tryz.underlying306 l3 1 _ rfl;obtain⟨z0,f0,k0⟩:=int_part (k:= .i64) Tryz.underlying3 (by kernel_rfl) s0;obtain⟨t1,f1,k1'⟩:=str_part Tryz.underlying9 (by kernel_rfl) s1;cases e0;cases f0;cases e1;have ht:t1=⟨x.2.toArray⟩:=by
   have h:x.2=t1.data.toList:=by
    injection f1 with f1
    injection f1
   rw[h]
  subst ht;obtain⟨o1,o2⟩:=wJ hok;have w0:=l2 0 (by rw[hc];decide);have w1:=l2 1 (by rw[hc];decide);rw[hc,Nat.add_zero] at w0;rw[hc] at w1;exact⟨x.1,_,_,w0.trans k0,w1.trans k1',o1,o2⟩
 ·rw[g2,←Array.getElem?_toList,hb2];rfl
 ·have hk9:k<pwL.length:=hk;obtain⟨cs',n,q,l1,l2,l3⟩:=hel2 k (.lit (.int .i64 pwL[k])) (by rw[List.getElem?_map,List.getElem?_eq_getElem hk9];rfl);obtain⟨z,hz,hx,-⟩:=DataW.trod_int Tryz.underlying3 l3;have hx1:=congrArg Prod.fst hx;cases hx1;have h:=l2 0 (by rw[hc3];decide);rw[hc3,Nat.mul_one,Nat.add_zero,hz] at h;have hb:∀i:Fin 9,0<pwL[i.1]'i.2∧pwL[i.1]'i.2≤27:=by decide
  exact⟨_,h,hb ⟨k,hk⟩⟩
def yx:Go.Shelf.Ren where
 f:=fun x=>x
 t:=fun x=>if x=5 then 5 else if x=119 then 213 else if x=138 then 215 else if x=139 then 216 else x
 g:=fun x=>if x=3 then 7 else if x=4 then 8 else x
theorem VarAt.reads{w:World}{n:String}{d:DataW Unit}(h:VarAt w n d):Lib.VarReads Tryz.prog w n d:=by
 obtain⟨g,t,cs,fuel,p,h1,h2,h3,h4,-⟩:=h;exact⟨g,t,cs,fuel,p,h1,h2,h3,h4⟩
theorem yr{w:World}(h1:VarAt w "unicode/utf8.first" Rows.laid_unicode_utf8_first)(h2:VarAt w "unicode/utf8.acceptRanges" Rows.laid_unicode_utf8_acceptRanges):Utf8Tabs 7 8 w:=by
 have e1:Rows.laid_unicode_utf8_first=firstData:=by kernel_rfl
 have e2:(Rows.laid_unicode_utf8_acceptRanges:DataW Unit)=acceptData:=by kernel_rfl
 have L:U8Types Tryz.prog yx:=⟨by kernel_rfl,by kernel_rfl,by kernel_rfl,by kernel_rfl⟩;have X:U8Extra Tryz.prog yx:=⟨by kernel_rfl,by kernel_rfl,by kernel_rfl,by kernel_rfl,by kernel_rfl,by kernel_rfl,by kernel_rfl⟩;exact utf8Tabs_of_readsT L X (e1▸h1.reads) (e2▸h2.reads)
theorem mr{w:World}(h:laidMetH Tryz.prog ik w):(∃eb eo,WG eb eo w)∧FG w∧PT w∧LT w:=by
 have H:=Z (su h);clear h;obtain⟨eb,eo,cs,T,he,hb⟩:=VarAt.sentinel (db H (List.mem_filter.2 ⟨(.tail _ (.tail _ (.tail _ (.tail _ (.tail _ (.tail _ (.tail _ (.tail _ (.tail _ (.tail _ (.tail _ (.tail _ (.tail _ (.head _)))))))))))))),rfl⟩)) (g:=0) (by kernel_rfl) (by kernel_rfl);obtain⟨b1,o1,c1,T1,h11,-⟩:=VarAt.sentinel (db H (List.mem_filter.2 ⟨(.tail _ (.tail _ (.tail _ (.tail _ (.tail _ (.tail _ (.tail _ (.tail _ (.tail _ (.tail _ (.tail _ (.tail _ (.head _))))))))))))),rfl⟩)) (g:=11) (by kernel_rfl) (by kernel_rfl);obtain⟨b2,o2,c2,T2,h12,-⟩:=VarAt.sentinel (db H (List.mem_filter.2 ⟨(.tail _ (.tail _ (.tail _ (.tail _ (.tail _ (.tail _ (.tail _ (.tail _ (.tail _ (.tail _ (.tail _ (.head _)))))))))))),rfl⟩)) (g:=12) (by kernel_rfl) (by kernel_rfl);obtain⟨c3,n3,p3,hv3,g3,r3,-⟩:=(db H (List.mem_filter.2 ⟨(.tail _ (.head _)),rfl⟩)).open (g:=23) (t:=312) (by kernel_rfl) (by kernel_rfl)
 refine⟨⟨eb,eo,?_,af hb,he,⟨cs,T,hb⟩,yr (db H (List.mem_filter.2 ⟨(.tail _ (.tail _ (.tail _ (.tail _ (.tail _ (.tail _ (.tail _ (.tail _ (.tail _ (.tail _ (.tail _ (.tail _ (.tail _ (.tail _ (.tail _ (.tail _ (.tail _ (.tail _ (.tail _ (.tail _ (.tail _ (.head _)))))))))))))))))))))),rfl⟩)) (db H (List.mem_filter.2 ⟨(.tail _ (.tail _ (.tail _ (.tail _ (.tail _ (.tail _ (.tail _ (.tail _ (.tail _ (.head _)))))))))),rfl⟩)),⟨_,_,h11⟩,⟨_,_,h12⟩⟩,yI (db H (List.mem_filter.2 ⟨(.tail _ (.tail _ (.tail _ (.tail _ (.head _))))),rfl⟩)) (db H (List.mem_filter.2 ⟨(.tail _ (.tail _ (.tail _ (.head _)))),rfl⟩)) (db H (List.mem_filter.2 ⟨(.tail _ (.tail _ (.tail _ (.tail _ (.tail _ (.tail _ (.head _))))))),rfl⟩)),yy (db H (List.mem_filter.2 ⟨(.tail _ (.tail _ (.tail _ (.tail _ (.tail _ (.tail _ (.tail _ (.tail _ (.tail _ (.tail _ (.tail _ (.tail _ (.tail _ (.tail _ (.tail _ (.tail _ (.tail _ (.tail _ (.tail _ (.tail _ (.head _))))))))))))))))))))),rfl⟩)),yE (db H (List.mem_filter.2 ⟨(.tail _ (.tail _ (.tail _ (.tail _ (.tail _ (.tail _ (.tail _ (.tail _ (.tail _ (.tail _ (.tail _ (.tail _ (.tail _ (.tail _ (.tail _ (.tail _ (.tail _ (.tail _ (.tail _ (.head _)))))))))))))))))))),rfl⟩)) (db H (List.mem_filter.2 ⟨(.tail _ (.tail _ (.tail _ (.tail _ (.tail _ (.head _)))))),rfl⟩))⟩;obtain⟨n4,d4,q4,-,r4⟩:=array_elem (n:=64) (e:=5) (by kernel_rfl) r3 0 (by decide);obtain⟨z,-,hz⟩:=int_part (o:=0) Tryz.underlying5 (by kernel_rfl) (show trodU w n4 5 ((c3.toList.drop 0).take (Tryz.prog.cellsOf 5))=some (d4,q4) from by simpa using r4);have h23:w.cell? ⟨23,0,none⟩=some (.int .u8 z):=by rw[g3];simpa using hz
 have:=ax h23;exact this
end Go.Proofs.YtnclklfhjbkjhaaGreatDoor
namespace Go.Proofs.YtnclklfhjbkjhaaGreatDoor
open Go
def laidN:List (String×DataW Unit):=Rows.fnScanRow.laid.filter fun x=>x.2.handleName?.isNone
noncomputable def tX(os:Os):World:=
 let w0:=World.holding Tryz.prog os ⟨#[],#[],[]⟩
 {w0 with heap:=w0.heap.modify 5 fun
   | .cells _ t frozen=> .cells #[.iface 223 (.agg #[.pointer (some ⟨24,63,none⟩)])] t frozen
   |o=>o}
noncomputable def tY(os:Os):World:=(tX os).layVars Tryz.prog laidN
theorem rc(os:Os):(tY os).os=os:=World.layVars_os _ _ _
theorem rd(os:Os):(tX os).layFits Tryz.prog laidN []=true:=by kernel_rfl
theorem nQ(os:Os):(tX os).layIfaces Tryz.prog laidN (tY os)=true:=by kernel_rfl
theorem re(os:Os)(args:Array Value):laidMet Tryz.prog laidN ((tY os).forCall (fun _ _=>0) ⟨#[],args,[]⟩).memory:=by
 have e1:(laidN.filter fun x=>(laidN.map (·.1)).contains x.1)=laidN:=List.filter_eq_self.2 fun x hx=>List.contains_iff_mem.2 (List.mem_map.2 ⟨x,hx,rfl⟩)
 have e2:(laidN.filter fun x=> !(laidN.map (·.1)).contains x.1)=[]:=List.filter_eq_nil_iff.2 fun x hx=>by rw[List.contains_iff_mem.2 (List.mem_map.2 ⟨x,hx,rfl⟩)];simp
 have h:laidMet Tryz.prog laidN (tY os):=laidMet_layVars (w0:=tX os) (laidN.map (·.1)) [] (by rw[e1];rfl) (by rw[e1];exact rd os) (by rw[e1];exact nQ os) (by rw[e2];exact LaidIn.none);exact h.of_heap (by simp[World.memory,World.forCall,Input.heap])
theorem oY(os:Os)(args:Array Value):laidMetH Tryz.prog Rows.fnScanRow.laid ((tY os).forCall (fun _ _=>0) ⟨#[],args,[]⟩).memory:=
 laidMetH_of_parts (re os args) (by kernel_rfl)
theorem nP(os:Os):((tY os).forCall (fun _ _=>0) ⟨#[],#[.string ⟨#[]⟩],[]⟩).Shaped Tryz.prog:=World.shaped_of_ZipB (by kernel_rfl) (by kernel_rfl)
theorem nO(os:Os):((tY os).forCall (fun _ _=>0) ⟨#[],#[.string ⟨#[]⟩,.slice none 0 0],[]⟩).Shaped Tryz.prog:=World.shaped_of_ZipB (by kernel_rfl) (by kernel_rfl)
end Go.Proofs.YtnclklfhjbkjhaaGreatDoor
