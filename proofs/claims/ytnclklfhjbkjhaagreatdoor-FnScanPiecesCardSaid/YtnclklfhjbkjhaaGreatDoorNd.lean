/- Part of the proof: N6 N8 N7 N9. -/
import Derived.Test.YtnclklfhjbkjhaaGreatDoorNb
set_option maxRecDepth 1000000
set_option maxHeartbeats 40000000
set_option linter.unusedSimpArgs false
namespace Go.Proofs.YtnclklfhjbkjhaaGreatDoor
open Go.RowKit Go.Lib
structure Bd(li fi lp fp e st im:Nat)(s:Sc):Prop where
 imp:∀l,s.imp=some l→l.length≤li∧l.flatten.length≤fi
 pkg:∀l,s.pkg=some l→l.length≤lp∧l.flatten.length≤fp
 errs:s.errs.length≤e
 stk:s.stk.length≤st
 imps:s.imports.length≤im
theorem Bd.mono{li fi lp fp e st im li' fi' lp' fp' e' st' im':Nat}{s:Sc}(h:Bd li fi lp fp e st im s)(h1:li≤li')(h2:fi≤fi')(h3:lp≤lp')(h4:fp≤fp')(h5:e≤e')(h6:st≤st')(h7:im≤im'):Bd li' fi' lp' fp' e' st' im' s:=
 ⟨fun l hl=>by have:=h.imp l hl;omega,fun l hl=>by have:=h.pkg l hl;omega,Nat.le_trans h.errs h5,Nat.le_trans h.stk h6,Nat.le_trans h.imps h7⟩
theorem gp{p:Prop} [Decidable p]{a b:List Ps}{n:Nat}(h1:a.length≤n)(h2:b.length≤n):(if p then a else b).length≤n:=by split<;>assumption
theorem lU{li fi lp fp e st im:Nat}{s:Sc}{x:Lx}(h:Bd li fi lp fp e st im s):Bd (li+1) (fi+(txt x).length) lp fp (e+1) st (im+1) (bI s x):=by
 cases hi:s.imp with
 |none=>
  rw[gN hi];exact h.mono (by omega) (by omega) (by omega) (by omega) (by omega) (by omega) (by omega)
 |some l=>
  have hb:=h.imp l hi;have he:=h.errs;have him:=h.imps;by_cases h1:x.k=65537
  ·rw[jo hi h1];refine⟨fun l' hl=>?_,h.pkg,Nat.le_succ_of_le he,h.stk,Nat.le_succ_of_le him⟩;have e:l'=l++ [txt x]:=(Option.some.inj hl).symm;rw[e,qk,eu,qk];simp only[List.length_cons,List.length_nil];omega
  ·by_cases hl:l=[]
   ·subst hl;by_cases hw:x.k=65539∧(txt x=bX∨txt x=dQ)
    ·rw[fw hi hw.1 hw.2];exact⟨fun l' hl=>by have:=h.imp l' hl;omega,h.pkg,Nat.le_succ_of_le he,h.stk,Nat.le_succ_of_le him⟩
    ·rw[gw hi h1 (fun e1 e2=>hw ⟨e1,e2⟩)];exact⟨(fun l' hl=>by cases hl),h.pkg,by show(s.errs++ [fu x.pv]).length≤_;rw[qk];exact Nat.add_le_add_right he 1,h.stk,Nat.le_succ_of_le him⟩
   ·rw[eW hi h1 hl];exact⟨(fun l' hl=>by cases hl),h.pkg,gp (by omega) (by rw[qk];exact Nat.add_le_add_right he 1),h.stk,by show(s.imports++ [_]).length≤_;rw[qk];exact Nat.add_le_add_right him 1⟩
theorem pd{li fi lp fp e st im:Nat}{s:Sc}{x:Lx}(h:Bd li fi lp fp e st im s):Bd li fi (lp+1) (fp+(txt x).length+1) (e+2) st im (bU s x):=by
 cases hi:s.pkg with
 |none=>
  rw[gK hi];exact h.mono (by omega) (by omega) (by omega) (by omega) (by omega) (by omega) (by omega)
 |some l=>
  have hb:=h.pkg l hi;have he:=h.errs;have h1e:(s.errs++ [fu x.pv]).length≤e+1:=by rw[qk];exact Nat.add_le_add_right he 1
  by_cases h1:x.k=65539
  ·rw[dS hi h1];refine⟨h.imp,fun l' hl=>?_,gp (by omega) (by omega),h.stk,h.imps⟩;have e:l'=l++ [txt x]:=(Option.some.inj hl).symm;rw[e,qk,eu,qk];simp only[List.length_cons,List.length_nil];omega
  ·by_cases h2:x.k=46
   ·rw[eM hi h2];refine⟨h.imp,fun l' hl=>?_,gp (by omega) (by omega),h.stk,h.imps⟩;have e:l'=l++ [df]:=(Option.some.inj hl).symm;rw[e,qk,eu,qk];simp only[List.length_cons,List.length_nil,df];omega
   ·by_cases hl:l=[]
    ·subst hl;rw[i7 hi h1 h2];exact⟨h.imp,(fun l' hl=>by cases hl),by show(s.errs++ [fu x.pv]).length≤_;omega,h.stk,h.imps⟩
    ·rw[dU hi h1 h2 hl];refine⟨h.imp,(fun l' hl=>by cases hl),?_,h.stk,h.imps⟩;show((if x.k=59 then s.errs else s.errs++ [fu x.pv]) ++ (if l.getLast?=some df then[fu s.pl] else[])).length≤_;rw[qk];have a:(if x.k=59 then s.errs else s.errs++ [fu x.pv]).length≤e+1:=gp (by omega) h1e;have b:(if l.getLast?=some df then[fu s.pl] else[]).length≤1:=gp (by simp) (by simp);omega
theorem vc{li fi lp fp e st im:Nat}{s:Sc}{x:Lx}(h:Bd li fi lp fp e st im s):Bd li fi lp fp e (st+1) im (bQ s x):=by
 have hs:=h.stk;have hm:Bd li fi lp fp e (st+1) im s:=h.mono (by omega) (by omega) (by omega) (by omega) (by omega) (by omega) (by omega);by_cases h1:x.k=40∨x.k=123∨x.k=91∨x.k=60
 ·rw[d9 h1];exact⟨h.imp,h.pkg,h.errs,Nat.succ_le_succ hs,h.imps⟩
 by_cases h2:x.k=41∨x.k=125∨x.k=93∨x.k=62
 ·rw[ey h2];split
  ·exact⟨h.imp,h.pkg,h.errs,by show s.stk.tail.length≤_;rw[List.length_tail];omega,h.imps⟩
  ·exact hm
 by_cases h3:x.k=65539
 ·rw[dl h3];split
  ·split
   ·exact⟨(fun l hl=>by cases hl;simp),h.pkg,h.errs,Nat.le_succ_of_le hs,h.imps⟩
   ·split
    ·exact⟨h.imp,(fun l hl=>by cases hl;simp),h.errs,Nat.le_succ_of_le hs,h.imps⟩
    ·exact hm
  ·exact hm
 ·rw[jB h1 h2 h3];exact hm
def BdAt(d:Nat)(s:Sc):Prop:=Bd d (100*d) d (100*d) (3*d) d d s
theorem zQ:BdAt 0 lj:=⟨fun l h=>(by cases h),fun l h=>(by cases h),Nat.le_refl _,Nat.le_refl _,Nat.le_refl _⟩
theorem BdAt.step{d d':Nat}{s:Sc}{x:Lx}(h:BdAt d s)(hd:d<d')(ht:(txt x).length+1+100*d≤100*d'):BdAt d' (bc s x):=by
 have h2:BdAt d' (bQ (bU (bI s x) x) x):=(vc (x:=x) (pd (x:=x) (lU (x:=x) h))).mono (by omega) (by omega) (by omega) (by omega) (by omega) (by omega) (by omega);exact⟨h2.imp,h2.pkg,h2.errs,h2.stk,h2.imps⟩
theorem Bd.small{li fi lp fp e st im:Nat}{s:Sc}(h:Bd li fi lp fp e st im s)(h1:li≤500000)(h2:fi≤1000000000)(h3:lp≤500000)(h4:fp≤1000000000)(h5:e≤500000)(h6:st≤500000)(h7:im≤500000):Small s:=
 ⟨fun l hl=>by have:=h.imp l hl;omega,fun l hl=>by have:=h.pkg l hl;omega,Nat.le_trans h.errs h5,Nat.le_trans h.stk h6,Nat.le_trans h.imps h7⟩
theorem BdAt.small{d:Nat}{s:Sc}{x:Lx}(h:BdAt d s)(hd:d≤100000)(ht:(txt x).length≤100000000):Small s∧Small (bI s x)∧Small (bU (bI s x) x):=
 ⟨Bd.small h (by omega) (by omega) (by omega) (by omega) (by omega) (by omega) (by omega),Bd.small (lU (x:=x) h) (by omega) (by omega) (by omega) (by omega) (by omega) (by omega) (by omega),Bd.small (pd (x:=x) (lU (x:=x) h)) (by omega) (by omega) (by omega) (by omega) (by omega) (by omega) (by omega)⟩
end Go.Proofs.YtnclklfhjbkjhaaGreatDoor
namespace Go.Proofs.YtnclklfhjbkjhaaGreatDoor
open Tryz
open Go.RowKit Go.Lib
def tI(C:RC)(fn:ByteArray)(R0:List Int)(w:World)(e:Ending)(w':World):Prop:=
 ∃ (s:Sc) (fl:Bool) (t:ByteArray) (P:Nat→Prop) (V:Nat→Value) (N:Nat→Nat) (X:Nat→List Value) (ev:Value),bT R0 ⟨0,0⟩ lj=(s,fl)∧t.toList=s.name∧SRel fn s P V N X w'∧
  (∀i,i<5→w'.ownsRow (C.bb+1) (mF i) (qv i) (V i) (N i) (X i))∧Fr (· =C.pb) w w'∧Small s∧e= .returned (.tuple #[.agg #[.string t,V 4],ev])∧
  ((fl=true∧C.fin=true∧∃b,ev= .iface 172 (.pointer (some b)))∨((fl=false∨C.fin=false)∧ev=if N 2=0 then .nilIface else .iface 72 (V 2)))
def zx(Post:Ending→World→Prop):Exit→Act→World→Prop
 | .ret,a,w=>bodyPost prog Tryz.f18 Post .ret a w
 |_,_,_=>False
section
variable {C:RC} {rr T:Nat} {R:List Int} {p pv:Ps} {fn:ByteArray} {b:Bl} {s:Sc} {A P:Nat→Prop} {V:Nat→Value} {N:Nat→Nat} {X:Nat→List Value} {w:World}
theorem ScS.done(h:ScS C rr T R p pv fn b s A P V N X w)(hob:b.w0.heap.size≤b.ob){w':World}(f:Fr (· =b.ob) w w'):SRel fn s P V N X w'∧(∀i,i<5→w'.ownsRow (C.bb+1) (mF i) (qv i) (V i) (N i) (X i))∧Fr (· =C.pb) b.w0 w':=by
 have hp2:=h.fix.p.2.1;refine⟨?_,fun i hi=>aj (h.sb.rows i hi) f fun g hg e=>?_,(h.old.step f (A':=A) (fun k hk e=>?_) fun _ e=>e).fr⟩
 ·obtain⟨ks,h1,h2⟩:=h.rel.errs.2;refine⟨h.rel.imp,h.rel.pkg,⟨h.rel.errs.1,ks,h1,h2.1,fun i hi hi'=>?_⟩,h.rel.stk,h.rel.imps⟩;obtain⟨h3,v,h4⟩:=h2.2 i hi hi';refine⟨h3,v,f.blk (fun e=>?_) h4⟩;have e':ks[i]=b.ob:=e;rw[e',h.fix.o] at h4;simp at h4
 ·have e':g=b.ob:=e;subst e';exact(h.sb.own i hi _ hg).2.1 hp2
 ·have e':k=b.ob:=e;omega
end
theorem sX(C:RC)(rr T:Nat)(R R0:List Int)(p pv:Ps)(fn:ByteArray)(b:Bl)(s:Sc)(A P:Nat→Prop)(V:Nat→Value)(N:Nat→Nat)(X:Nat→List Value)(w:World)(a:Act)(fl:Bool)(hob:b.w0.heap.size≤b.ob)
  (HS:Hid (ScS C rr T R p pv fn b s A P V N X w)) (HSM:Hid (Small s)) (HE:Hid (bT R0 ⟨0,0⟩ lj=(s,fl))) (HF:Hid (fl=false∨C.fin=false)) (hF:Fr18 (fun u=>u 4= .pointer (some ⟨b.ob,0,none⟩)∧u 6= .pointer (some ⟨b.sb,0,none⟩)∧u 11=V 2) a):
  (ve 18).wp prog (zx (tI C fn R0 b.w0)) a w:=by
 obtain⟨u,⟨u4,u6,u11⟩,rfl⟩:=hF;obtain⟨t0,ht0,hn0⟩:=HS.fix.s;have HN0:=Z hn0;have hsb:w.drew.heap[b.sb]? =some (.cells #[.string t0,V 4] 61 (0,0)):=ht0;have hob':w.drew.heap[b.ob]? =some (.cells #[.string ⟨#[]⟩,.slice none 0 0] 61 (0,0)):=HS.fix.o;have HOB:Hid (w.heap[b.ob]? =some (.cells #[.string ⟨#[]⟩,.slice none 0 0] 61 (0,0))):=Z hob';have s0:w.drew.cell? ⟨b.sb,0,none⟩=some (.string t0):=ab hsb 0;have s1:w.drew.cell? ⟨b.sb,1,none⟩=some (V 4):=ab hsb 1;have o0:w.drew.cell? ⟨b.ob,0,none⟩=some (.string ⟨#[]⟩):=ab hob' 0;have o1:w.drew.cell? ⟨b.ob,1,none⟩=some (.slice none 0 0):=ab hob' 1;have f0:=ae hob' 0;have f1:=ae hob' 1;have l0:=af hob';have o0':w.cell? ⟨b.ob,0,none⟩=some (.string ⟨#[]⟩):=o0;have o1':w.cell? ⟨b.ob,1,none⟩=some (.slice none 0 0):=o1;have f0':w.frozen? ⟨b.ob,0,none⟩=false:=f0;have f1':w.frozen? ⟨b.ob,1,none⟩=false:=f1;obtain⟨a2,c2,hv2⟩:∃a2 c2,V 2= .slice a2 (N 2) c2:=by
  rcases(HS.sb.rows 2 (by decide)).2 with⟨h,h0⟩|⟨g,cap,cur,h,-⟩
  ·exact⟨_,0,by rw[h,h0]⟩
  ·exact⟨_,cap,h⟩
 obtain⟨a4,c4,hv4⟩:∃a4 c4,V 4= .slice a4 (N 4) c4:=by
  rcases(HS.sb.rows 4 (by decide)).2 with⟨h,h0⟩|⟨g,cap,cur,h,-⟩
  ·exact⟨_,0,by rw[h,h0]⟩
  ·exact⟨_,cap,h⟩
 rw[hv4] at s1;rw[hv2] at u11;have HV2:=Z hv2;have HV4:=Z hv4;unfold gP;rw[u4,u6,u11];clear u4 u6 u11 hv2 hv4 hn0 ht0 hsb hob'
 conv=>arg 2;whnf
 go_wp2_with fail;refine wp_region_held_drew (S:=(fun _=>True)) (by kernel_rfl) trivial (fun hHeld=>?_);refine wpAnyH_take (i:=1) (v:=?_) rfl (by kernel_rfl) (by kernel_rfl) (by kernel_rfl) (fun _ _ _ h=>h) (Or.inl ⟨by rfl,?_⟩) hHeld ?_;rotate_left
 ·intro w hSw
  (try dsimp only at hSw)
  go_simp
  try with_reducible rfl
 try simp only[List.getElem_toArray,Act.put,List.setIfInBounds_toArray]
 refine wpAnyH_ready (rs:=[0,2]) (by kernel_rfl) (by simp) ?_;refine AllReadyH.cons rfl (fun K hK=>?_) ?_
 ·go_simp;refine hK.out _ _ trivial (fun hHeld=>?_);clear hK K
  try simp only[qa,qb,qc,Act.put,qd,qe,qf]
  refine wpAnyH_ready (rs:=[2]) (by kernel_rfl) (by simp) ?_;refine AllReadyH.cons rfl (fun K hK=>?_) AllReadyH.nil;go_simp;go_wp2_with ((go_at_call 34;refine(iP a2 (N 2) c2 _).mono ?_;rintro e w5 ⟨he,rfl⟩;obtain⟨ev,hev⟩:∃ev,ev=(if N 2=0 then Value.nilIface else .iface 72 (.slice a2 (N 2) c2)):=⟨_,rfl⟩;rw[←hev] at he;subst he;have HEV:=Z hev;clear hev));refine hK.out _ _ trivial (fun hHeld=>?_);clear hK K
  try simp only[qa,qb,qc,Act.put,qd,qe,qf]
  refine wpAnyH_ready (rs:=[3]) (by kernel_rfl) (by simp) ?_;refine AllReadyH.cons rfl (fun K hK=>?_) AllReadyH.nil;go_simp;refine hK.out _ _ trivial (fun hHeld=>?_);clear hK K
  try simp only[qa,qb,qc,Act.put,qd,qe,qf]
  refine dP (v:=?_) 4 rfl rfl (by kernel_rfl) (by rfl) (fun _ _ _ h=>h) ?_ hHeld ?_;rotate_left
  ·intro w hSw
   (try dsimp only at hSw)
   go_simp
   try with_reducible rfl
  try simp only[qa,qb,qc,Act.put,qd,qe,qf]
  refine wpAnyH_done (by kernel_rfl) ?_ _;go_wp2_with fail;show bodyPost prog Tryz.f18 _ .ret _ _;have hb9:(((w.setCell ⟨b.ob,0,none⟩ (.string t0)).setCell ⟨b.ob,1,none⟩ (.slice a4 (N 4) c4)).drew).heap[b.ob]? =some (.cells #[.string t0,.slice a4 (N 4) c4] 61 (0,0)):=(ag (ag HOB 0 (.string t0)) 1 (.slice a4 (N 4) c4)).trans rfl;have q0:=ab hb9 0;have q1:=ab hb9 1;simp only[show ∀u v:Value,(#[u,v]:Array Value)[0]? =some u from fun _ _=>rfl] at q0;simp only[show ∀u v:Value,(#[u,v]:Array Value)[1]? =some v from fun _ _=>rfl] at q1;obtain⟨d1,d2,d3⟩:=HS.done hob (((Fr.refl w).setIn (S:=(· =b.ob)) (p:=⟨b.ob,0,none⟩) (.string t0) rfl).setIn (p:=⟨b.ob,1,none⟩) (.slice a4 (N 4) c4) rfl).drew;refine qh (v:= .tuple #[.agg #[.string t0,.slice a4 (N 4) c4],ev]) (by simp[results,results18,go_sem,q0,q1]) rfl ?_;exact⟨s,fl,t0,P,V,N,X,ev,HE.out,HN0.out,d1,d2,d3,HSM.out,by rw[HV4.out],.inr ⟨HF.out,by rw[HEV.out,HV2.out]⟩⟩
 refine AllReadyH.cons rfl (fun K hK=>?_) AllReadyH.nil;go_simp;go_wp2_with ((go_at_call 34;refine(iP a2 (N 2) c2 _).mono ?_;rintro e w5 ⟨he,rfl⟩;obtain⟨ev,hev⟩:∃ev,ev=(if N 2=0 then Value.nilIface else .iface 72 (.slice a2 (N 2) c2)):=⟨_,rfl⟩;rw[←hev] at he;subst he;have HEV:=Z hev;clear hev));refine hK.out _ _ trivial (fun hHeld=>?_);clear hK K
 try simp only[qa,qb,qc,Act.put,qd,qe,qf]
 refine wpAnyH_ready (rs:=[0]) (by kernel_rfl) (by simp) ?_;refine AllReadyH.cons rfl (fun K hK=>?_) AllReadyH.nil;go_simp;refine hK.out _ _ trivial (fun hHeld=>?_);clear hK K
 try simp only[qa,qb,qc,Act.put,qd,qe,qf]
 refine wpAnyH_ready (rs:=[3]) (by kernel_rfl) (by simp) ?_;refine AllReadyH.cons rfl (fun K hK=>?_) AllReadyH.nil;go_simp;refine hK.out _ _ trivial (fun hHeld=>?_);clear hK K
 try simp only[qa,qb,qc,Act.put,qd,qe,qf]
 refine dP (v:=?_) 4 rfl rfl (by kernel_rfl) (by rfl) (fun _ _ _ h=>h) ?_ hHeld ?_;rotate_left
 ·intro w hSw
  (try dsimp only at hSw)
  go_simp
  try with_reducible rfl
 try simp only[qa,qb,qc,Act.put,qd,qe,qf]
 refine wpAnyH_done (by kernel_rfl) ?_ _;go_wp2_with fail;show bodyPost prog Tryz.f18 _ .ret _ _;have hb9:(((w.setCell ⟨b.ob,0,none⟩ (.string t0)).setCell ⟨b.ob,1,none⟩ (.slice a4 (N 4) c4)).drew).heap[b.ob]? =some (.cells #[.string t0,.slice a4 (N 4) c4] 61 (0,0)):=(ag (ag HOB 0 (.string t0)) 1 (.slice a4 (N 4) c4)).trans rfl;have q0:=ab hb9 0;have q1:=ab hb9 1;simp only[show ∀u v:Value,(#[u,v]:Array Value)[0]? =some u from fun _ _=>rfl] at q0;simp only[show ∀u v:Value,(#[u,v]:Array Value)[1]? =some v from fun _ _=>rfl] at q1;obtain⟨d1,d2,d3⟩:=HS.done hob (((Fr.refl w).setIn (S:=(· =b.ob)) (p:=⟨b.ob,0,none⟩) (.string t0) rfl).setIn (p:=⟨b.ob,1,none⟩) (.slice a4 (N 4) c4) rfl).drew;refine qh (v:= .tuple #[.agg #[.string t0,.slice a4 (N 4) c4],ev]) (by simp[results,results18,go_sem,q0,q1]) rfl ?_;exact⟨s,fl,t0,P,V,N,X,ev,HE.out,HN0.out,d1,d2,d3,HSM.out,by rw[HV4.out],.inr ⟨HF.out,by rw[HEV.out,HV2.out]⟩⟩
end Go.Proofs.YtnclklfhjbkjhaaGreatDoor
namespace Go.Proofs.YtnclklfhjbkjhaaGreatDoor
open Tryz
open Go.RowKit Go.Lib
noncomputable def zt(n:Nat):Code:=(Tryz.f18.body.bind (bx n)).getD .skip
theorem uR{s:Sc}{x:Lx}:(bI s x).pl=s.pl:=by
 cases hi:s.imp with
 |none=>rw[gN hi]
 |some l=>
  by_cases h1:x.k=65537
  ·rw[jo hi h1]
  ·by_cases hl:l=[]
   ·subst hl;by_cases hw:x.k=65539∧(txt x=bX∨txt x=dQ)
    ·rw[fw hi hw.1 hw.2]
    ·rw[gw hi h1 (fun e1 e2=>hw ⟨e1,e2⟩)]
   ·rw[eW hi h1 hl]
theorem uu{s:Sc}{x:Lx}:(bU s x).pl=s.pl:=by
 cases hi:s.pkg with
 |none=>rw[gK hi]
 |some l=>
  by_cases h1:x.k=65539
  ·rw[dS hi h1]
  ·by_cases h2:x.k=46
   ·rw[eM hi h2]
   ·by_cases hl:l=[]
    ·subst hl;rw[i7 hi h1 h2]
    ·rw[dU hi h1 h2 hl]
theorem ScS.flags2{C:RC}{rr T:Nat}{R:List Int}{p pv:Ps}{fn:ByteArray}{b:Bl}{s:Sc}{A P:Nat→Prop}{V:Nat→Value}{N:Nat→Nat}{X:Nat→List Value}{w:World}(h:ScS C rr T R p pv fn b s A P V N X w)(d:Bool)(pl:Ps):ScS C rr T R p pv fn b {s with ds:=d,pl:=pl} A P V N X w:=⟨h.sb,⟨h.rel.imp,h.rel.pkg,h.rel.errs,h.rel.stk,h.rel.imps⟩,h.fix,h.low,h.sg,h.old⟩
structure LpI(C:RC)(rr T:Nat)(fn:ByteArray)(b:Bl)(R0 R:List Int)(p pv:Ps)(s:Sc)(A P:Nat→Prop)(V:Nat→Value)(N:Nat→Nat)(X:Nat→List Value)(w:World):Prop where
 st:ScS C rr T R p pv fn b s A P V N X w
 eq:bT R0 ⟨0,0⟩ lj=bT R p s
 bd:BdAt (T-R.length) s
 len:R.length≤T
 cp:∀c∈R,0≤c∧c<65536
 pl:PsOk 1000000 s.pl
theorem p8(C:RC)(rr T:Nat)(fn:ByteArray)(b:Bl)(R0:List Int)(A P:Nat→Prop)(V:Nat→Value)(N:Nat→Nat)(X:Nat→List Value)(w:World)(a:Act)(hT:T≤100000)(hob:b.w0.heap.size≤b.ob)
  (p pv:Ps) (h:LpI C rr T fn b R0 R0 p pv lj A P V N X w) (hF:Fr18 (SSl b lj V) a):(zt 0).wp prog (bodyPost prog Tryz.f18 (tI C fn R0 b.w0)) a w:=by
 obtain⟨u,hu,rfl⟩:=hF;have HL0:=Z h;have HU0:=Z hu;clear h hu;unfold gP
 conv=>arg 2;whnf
 go_wp2_with fail;refine wp_loop_ghost_k (fun k a' wx=>∃ (R:List Int) (p pv:Ps) (s:Sc) (A P:Nat→Prop) (V:Nat→Value) (N:Nat→Nat) (X:Nat→List Value),k=R.length∧LpI C rr T fn b R0 R p pv s A P V N X wx∧Fr18 (SSl b s V) a') R0.length ?_ ?_
 ·exact⟨R0,p,pv,lj,A,P,V,N,X,rfl,HL0,⟨u,HU0,rfl⟩⟩
 ·rintro gk a' wr ⟨R,p,pv,s,A,P,V,N,X,rfl,hl,u,hu,rfl⟩ J K hJ hK;have HL:=Z hl;have HU:=Z hu;have cx:=ab hl.st.fix.x 0;simp only[show ∀v:Value,(#[v]:Array Value)[0]? =some v from fun _=>rfl] at cx;obtain⟨ok,hlx⟩:=hl.st.sb.lxs;have HLX:=Z hlx;unfold gP;rw[hu.u4,hu.u6,hu.u11,hu.u14];clear hl hu hlx;cases hx:lexF R p with
  |none=>
   have HX:=Z hx;clear hx;have HE:Hid (bT R0 ⟨0,0⟩ lj=(s,true)):=Z (HL.eq.trans (kf HX));have HSM:Hid (Small s):=Z (Bd.small HL.bd (by omega) (by omega) (by omega) (by omega) (by omega) (by omega) (by omega));cases hfin:C.fin
   ·go_upto_if 40 with(go_at_call 33;refine(gn C b.lx rr T A ok R p pv _ HLX.out (fun c hc=>by have:=HL.cp c hc;omega) HL.st.sg HL.st.low).mono ?_;rintro e w2 ⟨f2,h2⟩;rw[HX.out] at h2;obtain⟨⟨p2,pv2,hl2⟩,hh⟩:=h2;(have hh':=hh.resolve_right (fun e2=>absurd (hfin.symm.trans e2.1) (by decide)));obtain⟨-,rfl⟩:=hh';have HS2:=Z (HL.st.lexed f2 hl2);clear f2 hl2 hh);go_step;refine wp_mono (sX C rr T [] R0 _ _ fn b s A P V N X w2 _ true hob HS2 HSM HE (Z (.inr hfin)) (Fr18.mk rfl rfl ⟨rfl,rfl,rfl⟩)) ?_;intro e a' wx hh;cases e<;>first|exact hh|exact False.elim hh
   ·obtain⟨a4,c4,hv4⟩:∃a4 c4,V 4= .slice a4 (N 4) c4:=by
     rcases(HL.st.sb.rows 4 (by decide)).2 with⟨h,h0⟩|⟨g,cap,cur,h,-⟩
     ·exact⟨_,0,by rw[h,h0]⟩
     ·exact⟨_,cap,h⟩
    have HV4:=Z hv4;clear hv4;go_wp2_with (go_at_call 33;refine(gn C b.lx rr T A ok R p pv _ HLX.out (fun c hc=>by have:=HL.cp c hc;omega) HL.st.sg HL.st.low).mono ?_;rintro e w2 ⟨f2,h2⟩;rw[HX.out] at h2;obtain⟨⟨p2,pv2,hl2⟩,hh⟩:=h2;(have hh':=hh.resolve_left (fun e2=>absurd (hfin.symm.trans e2.1) (by decide)));obtain⟨-,b2,rfl⟩:=hh';have HS2:=Z (HL.st.lexed f2 hl2);obtain⟨t0,ht0,hn0⟩:=HS2.fix.s;have hob':=HS2.fix.o;have s0:=ab ht0 0;have s1:=ab ht0 1;have o0:=ab hob' 0;have o1:=ab hob' 1;have f0:=ae hob' 0;have f1:=ae hob' 1;have l0:=af hob';simp only[show ∀u v:Value,(#[u,v]:Array Value)[0]? =some u from fun _ _=>rfl] at s0 o0;simp only[show ∀u v:Value,(#[u,v]:Array Value)[1]? =some v from fun _ _=>rfl] at s1 o1;have HOB:=Z hob';have HN0:=Z hn0;rw[HV4.out] at s1;clear f2 hl2 hh ht0 hob' hn0);have hb9:((w2.setCell ⟨b.ob,0,none⟩ (.string t0)).setCell ⟨b.ob,1,none⟩ (.slice a4 (N 4) c4)).heap[b.ob]? =some (.cells #[.string t0,.slice a4 (N 4) c4] 61 (0,0)):=(ag (ag HOB 0 (.string t0)) 1 (.slice a4 (N 4) c4)).trans rfl;have q0:=ab hb9 0;have q1:=ab hb9 1;simp only[show ∀u v:Value,(#[u,v]:Array Value)[0]? =some u from fun _ _=>rfl] at q0;simp only[show ∀u v:Value,(#[u,v]:Array Value)[1]? =some v from fun _ _=>rfl] at q1;obtain⟨d1,d2,d3⟩:=HS2.done hob (((Fr.refl w2).setIn (S:=(· =b.ob)) (p:=⟨b.ob,0,none⟩) (.string t0) rfl).setIn (p:=⟨b.ob,1,none⟩) (.slice a4 (N 4) c4) rfl);refine qh (v:= .tuple #[.agg #[.string t0,.slice a4 (N 4) c4],.iface 172 (.pointer (some b2))]) (by simp[results,results18,go_sem,q0,q1]) rfl ?_;exact⟨s,true,t0,P,V,N,X,_,HE.out,HN0.out,d1,d2,d3,HSM.out,by rw[HV4.out],.inl ⟨rfl,hfin,b2,rfl⟩⟩
  |some x=>
   have HX:=Z hx;obtain⟨pn,hp1,hp2⟩:=HLX.ps;have htk:=uL (Q:=fun c=>0≤c∧c<65536) R.length R p pn x qr HL.cp hp1 hx;have HTK:=Z htk;have hlt:=m_ R.length R p x qr hx;have hlen:=HL.len;have hpv:PsOk 1000000 x.pv:=by
    obtain⟨m,h1,h2⟩:=htk.pv;exact h1.mono (by omega)
   have htx:(txt x).length≤100000000:=by
    have:=htk.txt;omega
   have hknd:x.k=65537∨x.k=65539→x.t≠none:=fun hk e=>by
    have:=htk.kind e;omega
   have HLT:=Z hlt;have HPV:=Z hpv;have HTX:=Z htx;have HKN:=Z hknd;have HSM:=Z (BdAt.small (x:=x) HL.bd (by omega) htx);clear hx hp1 hp2 htk hlt hlen hpv htx hknd;by_cases hk0:x.k=0
   ·have HE:Hid (bT R0 ⟨0,0⟩ lj=(s,false)):=Z (HL.eq.trans (p_ HX hk0));have HSM:=Z HSM.1;go_upto_if 40 with(go_at_call 33;refine(gn C b.lx rr T A ok R p pv _ HLX.out (fun c hc=>by have:=HL.cp c hc;omega) HL.st.sg HL.st.low).mono ?_;rintro e w2 ⟨f2,h2⟩;rw[HX.out] at h2;obtain⟨hl2,v,hv,rfl⟩:=h2;rw[hk0];have HS2:=Z (HL.st.lexed f2 hl2);clear f2 hl2 hv);go_step;refine wp_mono (sX C rr T x.rest R0 _ _ fn b s A P V N X w2 _ false hob HS2 HSM HE (Z (.inl rfl)) (Fr18.mk rfl rfl ⟨rfl,rfl,rfl⟩)) ?_;intro e a' wx hh;cases e<;>first|exact hh|exact False.elim hh
   ·have HK0:=Z hk0;have q0:(x.k==0)=false:=beq_eq_false_iff_ne.2 hk0;clear hk0;go_upto_if 40 with(go_at_call 33;refine(gn C b.lx rr T A ok R p pv _ HLX.out (fun c hc=>by have:=HL.cp c hc;omega) HL.st.sg HL.st.low).mono ?_;rintro e w2 ⟨f2,h2⟩;rw[HX.out] at h2;obtain⟨hl2,v,hv,rfl⟩:=h2;have HS2:=Z (HL.st.lexed f2 hl2);have HV:=Z hv;clear f2 hl2 hv);go_step;go_step;go_step;go_step;go_step;refine wp_cut (fun a' wx=>xS C rr T x.rest x.ps x.pv fn b (bI s x) x a' wx) ?_ (fun J1 K1 hJ1 hK1=>rA C rr T x.rest x.ps fn b s x _ _ J1 K1 _ ⟨A,P,V,N,X,HS2,Fr18.mk rfl rfl ⟨⟨rfl,rfl,HU.u7,HU.u8,HU.u9,HU.u10,rfl,HU.u12,HU.u13,rfl,HU.u15,HU.u16,HU.u17,HU.u18⟩,rfl,HV⟩⟩ HSM.1 HTX HPV HL.pl HKN hJ1 hK1);intro a1 w1 h1;go_step;go_step;have hpl1:PsOk 1000000 (bI s x).pl:=by rw[uR];exact HL.pl
    refine wp_cut (fun a' wx=>xS C rr T x.rest x.ps x.pv fn b (bU (bI s x) x) x a' wx) ?_ (fun J1 K1 hJ1 hK1=>rz C rr T x.rest x.ps fn b (bI s x) x _ _ J1 K1 _ h1 HSM.2.1 HTX HPV hpl1 HKN hJ1 hK1);intro a2 w2 h2;go_step;go_step;have hpl2:PsOk 1000000 (bU (bI s x) x).pl:=by rw[uu];exact hpl1
    refine wp_cut (fun a' wx=>xS C rr T x.rest x.ps x.pv fn b (bQ (bU (bI s x) x) x) x a' wx) ?_ (fun J1 K1 hJ1 hK1=>rB C rr T x.rest x.ps fn b (bU (bI s x) x) x _ _ J1 K1 _ h2 HSM.2.2 HTX HPV hpl2 HKN hJ1 hK1);rintro a3 w3 ⟨A3,P3,V3,N3,X3,hs3,u3,⟨hu3,ht3⟩,rfl⟩;have HS3:=Z hs3;have HU3:=Z hu3;obtain⟨-,-,hcx,hlb⟩:=hs3.cells;have d3:=ab hlb 3;have d4:=ab hlb 4;simp only[show ∀v0 v1 v2 v3 v4:Value,(#[v0,v1,v2,v3,v4]:Array Value)[3]? =some v3 from fun _ _ _ _ _=>rfl] at d3;simp only[show ∀v0 v1 v2 v3 v4:Value,(#[v0,v1,v2,v3,v4]:Array Value)[4]? =some v4 from fun _ _ _ _ _=>rfl] at d4;unfold gP;rw[hu3.u14,ht3.1];clear hs3 hu3 ht3 hlb h1 h2;have hk3:x.k=125∨x.k=59∨(x.k≠125∧x.k≠59):=by omega
    rcases hk3 with h|h|⟨h,h'⟩
    ·rw[h];have HH:=Z h;clear h;go_wp2_with fail;go_quiet (fail);go_wp2_with fail;have HS4:=Z (HS3.keep ((Fr.refl w3).drewN' nq));refine Handed.intro x.rest.length HLT.out (hJ _ _ _ ⟨x.rest,x.ps,x.pv,bc s x,A3,P3,V3,N3,X3,rfl,⟨HS4.flags2 (x.k==125||x.k==59) x.pv,HL.eq.trans (ei HX.out HK0.out),HL.bd.step (by have:=HLT.out;have:=HL.len;omega) (by have:=HTK.txt;have:=HLT.out;have:=HL.len;omega),by have:=HLT.out;have:=HL.len;omega,HTK.mem,HPV.out⟩,Fr18.mk rfl rfl ⟨HU3.u4,HU3.u6,HU3.u7,HU3.u8,HU3.u9,HU3.u10,HU3.u11,HU3.u12,by show Value.bool true=Value.bool (x.k==125||x.k==59);rw[HH.out];rfl,rfl,HU3.u15,HU3.u16,rfl,rfl⟩⟩)
    ·rw[h];have HH:=Z h;clear h;go_wp2_with fail;go_quiet (fail);go_wp2_with fail;have HS4:=Z (HS3.keep ((Fr.refl w3).drewN' nq));refine Handed.intro x.rest.length HLT.out (hJ _ _ _ ⟨x.rest,x.ps,x.pv,bc s x,A3,P3,V3,N3,X3,rfl,⟨HS4.flags2 (x.k==125||x.k==59) x.pv,HL.eq.trans (ei HX.out HK0.out),HL.bd.step (by have:=HLT.out;have:=HL.len;omega) (by have:=HTK.txt;have:=HLT.out;have:=HL.len;omega),by have:=HLT.out;have:=HL.len;omega,HTK.mem,HPV.out⟩,Fr18.mk rfl rfl ⟨HU3.u4,HU3.u6,HU3.u7,HU3.u8,HU3.u9,HU3.u10,HU3.u11,HU3.u12,by show Value.bool true=Value.bool (x.k==125||x.k==59);rw[HH.out];rfl,rfl,HU3.u15,HU3.u16,rfl,rfl⟩⟩)
    ·have q125:(x.k==125)=false:=beq_eq_false_iff_ne.2 h;have q59:(x.k==59)=false:=beq_eq_false_iff_ne.2 h';have HQ1:=Z q125;have HQ2:=Z q59;go_wp2_with fail;go_quiet (fail);go_wp2_with fail;have HS4:=Z (HS3.keep ((Fr.refl w3).drewN' nq));refine Handed.intro x.rest.length HLT.out (hJ _ _ _ ⟨x.rest,x.ps,x.pv,bc s x,A3,P3,V3,N3,X3,rfl,⟨HS4.flags2 (x.k==125||x.k==59) x.pv,HL.eq.trans (ei HX.out HK0.out),HL.bd.step (by have:=HLT.out;have:=HL.len;omega) (by have:=HTK.txt;have:=HLT.out;have:=HL.len;omega),by have:=HLT.out;have:=HL.len;omega,HTK.mem,HPV.out⟩,Fr18.mk rfl rfl ⟨HU3.u4,HU3.u6,HU3.u7,HU3.u8,HU3.u9,HU3.u10,HU3.u11,HU3.u12,by show Value.bool false=Value.bool (x.k==125||x.k==59);rw[HQ1.out,HQ2.out];rfl,rfl,HU3.u15,HU3.u16,rfl,rfl⟩⟩)
theorem qQ{l:List UInt8}(h:bt l 0<240):(ex l).1<65536:=by
 unfold ex;split
 ·decide
 ·generalize l.length=n at*
  generalize bt l 1=b1;generalize bt l 2=b2;generalize bt l 3=b3;generalize bt l 0=b0 at*
  unfold nE;split
  ·simp only;omega
  ·rename_i h1;split
   ·decide
   ·rename_i h2;unfold slowN;rcases jq (by omega) h with h3|h3|h3|h3|h3
    ·exact absurd h3 h2
    all_goals
     rw[h3]
     repeat' split
     all_goals(simp only;omega)
theorem mD:∀ (n:Nat) (l:List UInt8),l.length≤n→(∀i,bt l i<240)→∀c∈bj l,0≤c∧c<65536:=by
 intro n
 induction n with
 |zero=>
  intro l hl h c hc;have:l=[]:=List.eq_nil_of_length_eq_zero (by omega);subst this;rw[dj] at hc;cases hc
 |succ n ih=>
  intro l hl h c hc;by_cases e:l=[]
  ·subst e;rw[dj] at hc;cases hc
  ·rw[fL e] at hc;have hd:=gD e;rcases List.mem_cons.1 hc with hc|hc
   ·have:=qQ (h 0);omega
   ·exact ih (l.drop (ex l).2) (by rw[List.length_drop];omega) (pN h) c hc
theorem PBlk.keep{C:RC}{w w':World}{tx:ByteArray}{cv:Value}(h:PBlk C w tx cv)(k:Keep w w'):PBlk C w' tx cv:=Keep.blk k h
theorem CutsOk.kp{C:RC}{w w':World}{v:Value}(h:CutsOk C w v)(k:Keep w w'):CutsOk C w' v:=h.keep (k.mono fun _ _ e=>e.elim)
theorem Glob.kp{C:RC}{w w':World}(h:Glob C w)(k:Keep w w'):Glob C w':=h.fr (k.mono fun _ _ e=>e.elim)
theorem uh(w:World)(u v:Value)(T:TypeId):(w.alloc (.cells #[u] T)).setCell ⟨w.heap.size,0,none⟩ v=w.alloc (.cells #[v] T):=by
 have h:((w.heap.push (Obj.cells #[u] T)).modify w.heap.size fun x=>match x with
   |Obj.cells c elem frozen=>Obj.cells (if(none:Option Nat).isSome then c else c.setIfInBounds 0 v) elem frozen
   |o=>o)=w.heap.push (Obj.cells #[v] T):=by
  apply Array.ext_getElem?;intro i;rw[Array.getElem?_modify,Array.getElem?_push,Array.getElem?_push];by_cases e:i=w.heap.size
  ·subst e;simp
  ·rw[if_neg e,if_neg e,if_neg (Ne.symm e)]
 unfold World.setCell World.alloc;exact congrArg (fun h=>{w with heap:=h}) h
theorem rv(w:World)(n:Nat)(cap:Array Value)(h:w.heap.size=n):(store ⟨n,0,none⟩ (.func (.func 30) #[] cap)).run prog (w.alloc (.cells #[.nilFunc] 96))= .ok () (w.alloc (.cells #[.func (.func 30) #[] cap] 96)):=by
 subst h;rw[run_store prog _ _ _ _ (by rfl)];simp;exact uh _ _ _ _
theorem nV{C:RC}{lx rr T:Nat}{R:List Int}{w W w4:World}{fn:ByteArray}(b:Bl)(hb:b.fb=w.heap.size∧b.ob=w.heap.size+1∧b.sb=w.heap.size+1+1∧b.xb=w4.heap.size∧b.gb=w4.heap.size+1∧b.lx=lx∧b.w0=w)
  (hW:W=((w.alloc (.cells #[.string fn] 9)).alloc (.cells #[.string ⟨#[]⟩,.slice none 0 0] 61)).alloc (.cells #[.string ⟨#[]⟩,.slice none 0 0] 61)) (hbb:C.bb=w.heap.size+3) (hpb:C.pb<w.heap.size) (hsg:SG w) (hlx:W.heap.size≤lx)
  (hl:LxSt C lx rr (fun k=>(C.pb<k∧k<W.heap.size)∨k=lx) true T 0 R ⟨0,0⟩ ⟨0,0⟩ w4) (f4:Fr (· =C.pb) W w4) (hT:T=R.length) (hR:∀c∈R,0≤c∧c<65536):
  ∃A P,LpI C rr T fn b R R ⟨0,0⟩ ⟨0,0⟩ lj A P (fun _=> .slice none 0 0) (fun _=>0) (fun _=>[]) ((w4.alloc (.cells #[.pointer (some ⟨b.lx,0,none⟩)] 91)).alloc (.cells #[uV b] 96)):=by
 obtain⟨b1,b2,b3,b4,b5,b6,b7⟩:=hb;subst b6;have hWs:W.heap.size=w.heap.size+3:=by rw[hW];simp
 have kW:Keep w W:=by rw[hW];exact(((Fr.refl w).alloc _).alloc _).alloc _
 have hw4:=f4.size;have hll:=hl.lt b.lx (.inr rfl);have k6:Keep w4 ((w4.alloc (.cells #[.pointer (some ⟨b.lx,0,none⟩)] 91)).alloc (.cells #[uV b] 96)):=((Fr.refl w4).alloc _).alloc _;have hfb:W.heap[w.heap.size]? =some (.cells #[.string fn] 9 (0,0)):=by
  rw[hW,Below.heap_alloc _ _ _ (by simp;omega),Below.heap_alloc _ _ _ (by simp)];exact ql w _
 have hob:W.heap[w.heap.size+1]? =some (.cells #[.string ⟨#[]⟩,.slice none 0 0] 61 (0,0)):=by
  rw[hW,Below.heap_alloc _ _ _ (by simp)];have h:=ql (w.alloc (.cells #[.string fn] 9)) (.cells #[.string ⟨#[]⟩,.slice none 0 0] 61)
  rwa [World.size_alloc] at h
 have hsb:W.heap[w.heap.size+1+1]? =some (.cells #[.string ⟨#[]⟩,.slice none 0 0] 61 (0,0)):=by
  rw[hW];have h:=ql ((w.alloc (.cells #[.string fn] 9)).alloc (.cells #[.string ⟨#[]⟩,.slice none 0 0] 61)) (.cells #[.string ⟨#[]⟩,.slice none 0 0] 61)
  rwa [World.size_alloc,World.size_alloc] at h
 have hxb:((w4.alloc (.cells #[.pointer (some ⟨b.lx,0,none⟩)] 91)).alloc (.cells #[uV b] 96)).heap[w4.heap.size]? =some (.cells #[.pointer (some ⟨b.lx,0,none⟩)] 91 (0,0)):=by
  rw[Below.heap_alloc _ _ _ (by simp)];exact ql w4 _
 have hgb:((w4.alloc (.cells #[.pointer (some ⟨b.lx,0,none⟩)] 91)).alloc (.cells #[uV b] 96)).heap[w4.heap.size+1]? =some (.cells #[uV b] 96 (0,0)):=by
  have h:=ql (w4.alloc (.cells #[.pointer (some ⟨b.lx,0,none⟩)] 91)) (.cells #[uV b] 96)
  rwa [World.size_alloc] at h
 have hsz:((w4.alloc (.cells #[.pointer (some ⟨b.lx,0,none⟩)] 91)).alloc (.cells #[uV b] 96)).heap.size=w4.heap.size+1+1:=by simp
 have hf:Fr (· =C.pb) w ((w4.alloc (.cells #[.pointer (some ⟨b.lx,0,none⟩)] 91)).alloc (.cells #[uV b] 96)):=(((Fr.refl w).keep kW).trans f4).keep k6;have hlo:=C.lo;refine⟨fun k=>((C.pb<k∧k<W.heap.size)∨k=b.lx)∨(k=w4.heap.size∨k=w4.heap.size+1),fun k=>k=b.fb∨k=b.ob∨k=b.sb∨k=b.xb∨k=b.gb,⟨⟨⟨true,?_⟩,fun i _=>⟨by simp,.inl ⟨rfl,rfl⟩⟩,fun i _ g hg=>by simp[Value.ownBlock] at hg,fun i j _ _ _ g hg=>by simp[Value.ownBlock] at hg,fun k e=>?_⟩,⟨⟨rfl,rfl,rfl⟩,⟨rfl,rfl,rfl⟩,⟨rfl,[],rfl,rfl,fun i hi=>by simp at hi⟩,⟨rfl,rfl⟩,⟨rfl,[],rfl,rfl⟩⟩,⟨⟨.inl rfl,.inr (.inl rfl),.inr (.inr (.inl rfl)),.inr (.inr (.inr (.inl rfl))),.inr (.inr (.inr (.inr rfl)))⟩,?_,?_,⟨⟨#[]⟩,?_,by rw[qi];rfl⟩,?_,?_⟩,⟨by omega,by omega⟩,?_,⟨?_,?_,?_,?_,?_⟩⟩,rfl,?_,by omega,hR,⟨by decide,by decide,by decide,by decide⟩⟩
 ·refine hl.more k6 (fun k e=>?_) (.inl (.inr rfl));rcases e with e|e
  ·exact .inl e
  ·exact .inr (by omega)
 ·have e':k=b.fb∨k=b.ob∨k=b.sb∨k=b.xb∨k=b.gb:=e;show(((C.pb<k∧k<W.heap.size)∨k=b.lx)∨(k=w4.heap.size∨k=w4.heap.size+1))∧k≠b.lx;omega
 ·rw[b1];exact Keep.blk k6 (f4.blk (fun e=>by have e':w.heap.size=C.pb:=e;omega) hfb)
 ·rw[b2];exact Keep.blk k6 (f4.blk (fun e=>by have e':w.heap.size+1=C.pb:=e;omega) hob)
 ·rw[b3];exact Keep.blk k6 (f4.blk (fun e=>by have e':w.heap.size+1+1=C.pb:=e;omega) hsb)
 ·rw[b4];exact hxb
 ·rw[b5];exact hgb
 ·obtain⟨⟨T1,a1,e1⟩,⟨T2,a2,e2⟩⟩:=hsg;exact⟨⟨T1,a1,Fr.cell hf (fun e=>by have e':11=C.pb:=e;omega) e1⟩,⟨T2,a2,Fr.cell hf (fun e=>by have e':12=C.pb:=e;omega) e2⟩⟩
 ·rw[b7];exact hf
 ·intro k h1 h2;rw[b7] at h2;exact .inl (.inl ⟨h1,by omega⟩)
 ·rw[b7];omega
 ·rw[b7];omega
 ·rw[b7];omega
 ·rw[hT,Nat.sub_self];exact zQ
theorem rC(C:RC)(tx:ByteArray)(cv:Value)(w:World)(fn:ByteArray)(hfn:(fn.toList== [])=false)(hbb:C.bb=w.heap.size+3)(hkb:C.kb=w.heap.size+4)(hp:PBlk C w tx cv)(hc:CutsOk C w cv)(hg:Glob C w)(hs:tx.size≤100000)(h240:∀i,bt tx.toList i<240)
  (hbom:tx.toList.take 3≠[239,187,191]) (hsg:SG w):Calls prog 18 #[.string fn,.iface 66 (.pointer (some ⟨C.pb,0,none⟩))] w (tI C fn (bj tx.toList) w):=by
 obtain⟨W,hW⟩:∃W,W=((w.alloc (.cells #[.string fn] 9)).alloc (.cells #[.string ⟨#[]⟩,.slice none 0 0] 61)).alloc (.cells #[.string ⟨#[]⟩,.slice none 0 0] 61):=⟨_,rfl⟩;have kW:Keep w W:=by rw[hW];exact(((Fr.refl w).alloc _).alloc _).alloc _
 have hWs:W.heap.size=w.heap.size+3:=by rw[hW];simp
 have hpb:C.pb<w.heap.size:=af hp;have hfb:W.heap[w.heap.size]? =some (.cells #[.string fn] 9 (0,0)):=by
  rw[hW,Below.heap_alloc _ _ _ (by simp;omega),Below.heap_alloc _ _ _ (by simp)];exact ql w _
 have HFB:=Z hfb;have HN:=Z (lG C tx cv W (fun k=>C.pb<k∧k<W.heap.size) (by omega) (by omega) (hp.keep kW) (hc.kp kW) (hg.kp kW) (by omega) h240 hbom fun k h=>h);have HW:=Z hW;have HKW:=Z kW;have HWS:=Z hWs;have HSG:=Z hsg;have hR:=mD _ _ qr h240;have hrl:=gI tx.toList;rw[←cM] at hrl;have HR:=Z hR;have HBB:=Z hbb;have HKB:=Z hkb;clear hp hc hg h240 hbom hW kW hWs hsg hR hbb hkb hfb;go_enter func18,ntmps18;go_upto_block 0 with(go_at_call 29;rw[←HW.out];refine HN.mono ?_;rintro e w4 ⟨lx,rr,rfl,hlx,hl,f4⟩;have hfc:(w4.alloc (.cells #[.pointer (some ⟨lx,0,none⟩)] 91)).cell? ⟨w.heap.size,0,none⟩=some (.string fn):=Keep.cell ((Fr.refl w4).alloc _) (ab (f4.blk (fun e=>by(have e':w.heap.size=C.pb:=e);omega) HFB.out) 0);have hst:=rv (w4.alloc (.cells #[.pointer (some ⟨lx,0,none⟩)] 91)) (w4.heap.size+1) #[.pointer (some ⟨w.heap.size,0,none⟩)] (World.size_alloc ..);have HLX:=Z hlx;have HL:=Z hl;have HF4:=Z f4;clear hlx hl f4);obtain⟨A,P,hst⟩:=nV (fn:=fn) (R:=bj tx.toList) ⟨w.heap.size,w.heap.size+1,w.heap.size+1+1,w4.heap.size,w4.heap.size+1,lx,by omega,w⟩ ⟨rfl,rfl,rfl,rfl,rfl,rfl,rfl⟩ HW HBB hpb HSG HLX HL HF4 rfl HR.out;refine p8 C rr _ fn ⟨w.heap.size,w.heap.size+1,w.heap.size+1+1,w4.heap.size,w4.heap.size+1,lx,by omega,w⟩ (bj tx.toList) A P _ _ _ _ _ (by omega) (by show w.heap.size≤w.heap.size+1;omega) ⟨0,0⟩ ⟨0,0⟩ hst ?_;exact(Fr18.mk rfl rfl ⟨rfl,rfl,rfl,rfl,rfl,rfl,rfl,rfl,rfl,rfl,rfl,rfl,rfl,rfl⟩)
end Go.Proofs.YtnclklfhjbkjhaaGreatDoor
