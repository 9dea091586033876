/- Part of the proof: R2. -/
import Derived.Test.YtnclklfhjbkjhaaGreatDoorOc
import Derived.Test.YtnclklfhjbkjhaaGreatDoorJe
set_option maxRecDepth 1000000
set_option maxHeartbeats 40000000
set_option linter.unusedSimpArgs false
namespace Go.Proofs.YtnclklfhjbkjhaaGreatDoor
open Go.RowKit Go.Lib
def xP(w:World)(e:Ending)(w':World):Prop:=e= .returned (.bool true)∧Keep w w'
def vT(s:ByteArray)(w:World)(e:Ending)(w':World):Prop:=
 ∃ (k f l n how:Int) (t:ByteArray) (ka ia ta:Option Addr) (kn kc m ic tn tc:Nat),e= .returned (.tuple #[.agg #[.int .i64 k,.int .i64 f,.int .i64 l,.string t,.int .u64 n,.slice ka kn kc],.slice ia m ic,.slice ta tn tc,.int .i64 how])∧Keep w w'∧
  (how=0→(bT (bj s.toList) ⟨0,0⟩ lj).2=true)
theorem nY(s:ByteArray)(hs:s.size≤100000)(w:World)(hg:SG w)(hf:FG w)(hp:PT w)(hl:LT w):Calls Tryz.prog 6 #[.string s] w (vT s w):=
 (ku s hs w (fun d b w' k hb hd _=>fH d b hb w' hd (hg.keep k)) (fun d w' k hd hok=>eN d w' hd hok (hf.keep k) (hp.keep k) (hl.keep k) (hg.keep k))).mono
  fun e w' ⟨k,f,l,n,how,t,ka,ia,ta,kn,kc,m,ic,tn,tc,he,kk,hok⟩=>⟨k,f,l,n,how,t,ka,ia,ta,kn,kc,m,ic,tn,tc,he,kk,fun h=>by
   obtain⟨B,hB,hpo⟩:=hok h;obtain⟨ks,x,u,ds,sc,q1,q2,q3,q4,q5,q6,-⟩:=j9 hpo;rw[q6]⟩
theorem CutsV.keep{w w':World}{v:Value}(h:CutsV w v)(k:Keep w w'):CutsV w' v:=by
 rcases h with h|⟨cb,co,cl,cc,h1,h2,h3,h4,h5⟩
 ·exact .inl h
 ·refine .inr ⟨cb,co,cl,cc,h1,h2,h3,Nat.lt_of_lt_of_le h4 k.size,fun i hi=>?_⟩;obtain⟨z,hz⟩:=h5 i hi;exact⟨z,Keep.cell k hz⟩
theorem gQ(eb eo:Nat)(s:ByteArray)(cv:Value)(w:World)(hg:WG eb eo w)(hc:CutsV w cv)(hpar:∀w',Keep w w'→s.size≤100000→Calls Tryz.prog 6 #[.string s] w' (vT s w')):Calls Tryz.prog 4 #[.string s,cv] w (xP w):=by
 obtain⟨ca,cn,cc,rfl⟩:∃a n c,cv= .slice a n c:=by
  rcases hc with h|⟨cb,co,cl,cc,h,-⟩
  ·exact⟨_,_,_,h⟩
  ·exact⟨_,_,_,h⟩
 have H:=Z (And.intro hg (And.intro hc hpar));clear hg hc hpar;go_enter Tryz.func4,Tryz.ntmps4;by_cases h1:s.size>2147483647
 ·have g1:(s.size:Int) >2147483647:=by omega
  go_wp2_with fail;exact qh (results_tmp Tryz.results4 _ _ _) rfl ⟨rfl,Fr.refl w⟩
 have g1:¬ (s.size:Int) >2147483647:=by omega
 by_cases h2:cn>2147483647
 ·have g2:(cn:Int) >2147483647:=by omega
  go_wp2_with fail;exact qh (results_tmp Tryz.results4 _ _ _) rfl ⟨rfl,Fr.refl w⟩
 have g2:¬ (cn:Int) >2147483647:=by omega
 go_wp2_with (go_at_call 5;refine(gZ s w).mono ?_;rintro e w1 ⟨rfl,b,rfl,hb⟩;refine Hid.out ?_);refine Z ?_;cases b;rotate_left
 ·go_wp2_with fail;exact qh (results_tmp Tryz.results4 _ _ _) rfl ⟨rfl,Fr.refl _⟩
 obtain⟨h20,hbom⟩:=hb rfl;have HB:=Z (And.intro h20 hbom);clear h20 hbom hb;go_wp2_with (go_at_call 11;refine(uX s w1 (by have:=HB.1;omega)).mono ?_;rintro e w2 ⟨rfl,b,rfl,hb⟩;refine Hid.out ?_);refine Z ?_;cases b;rotate_left
 ·go_wp2_with fail;exact qh (results_tmp Tryz.results4 _ _ _) rfl ⟨rfl,Fr.refl _⟩
 have HF:=Z (hb rfl);clear hb;by_cases h3:cn>1000
 ·have g3:(cn:Int) >1000:=by omega
  go_wp2_with fail;exact qh (results_tmp Tryz.results4 _ _ _) rfl ⟨rfl,Fr.refl _⟩
 have g3:¬ (cn:Int) >1000:=by omega
 go_wp2_with fail;refine(kg eb eo s w2 H.1 (by have:=HB.1;omega) HF.out HB.2).mono ?_;rintro e wa ⟨s1,fl1,t1,iv1,fv1,is1,es1,rfl,a1,a2,a3,a4,a5,a6,a7,a8,a9⟩;obtain⟨ia1,ic1,hiv⟩:=aT a3;obtain⟨fa1,fc1,hfv⟩:=aT a7;subst hiv hfv;rw[Bool.and_false] at a6 ⊢;rw[if_neg (by decide)] at a6;have A1:=Z (And.intro a1 (And.intro a2 (And.intro a3 (And.intro a4 (And.intro a5 (And.intro a6 (And.intro a7 (And.intro a8 a9))))))));clear a1 a2 a3 a4 a5 a6 a7 a8 a9;go_wp2_with fail;refine(fM eb eo s (.slice ca cn cc) false wa (H.1.keep A1.2.2.2.2.2.2.2.2) (H.2.1.keep A1.2.2.2.2.2.2.2.2) (by have:=HB.1;omega) HF.out HB.2).mono ?_;rintro e wb ⟨s2,fl2,t2,iv2,fv2,is2,es2,rfl,a1,a2,a3,a4,a5,a6,a7,a8,a9⟩;obtain⟨ia2,ic2,hiv⟩:=aT a3;obtain⟨fa2,fc2,hfv⟩:=aT a7;subst hiv hfv;rw[Bool.and_false] at a6 ⊢;rw[if_neg (by decide)] at a6;have hsc:=a1.symm.trans A1.1;obtain⟨rfl,rfl⟩:=Prod.mk.inj hsc;obtain rfl:t2=t1:=oK (a2.trans A1.2.1.symm);obtain rfl:is2=is1:=lN (a4.trans A1.2.2.2.1.symm);obtain rfl:es2=es1:=a6.trans A1.2.2.2.2.2.1.symm;have A2:=Z (And.intro a3 (And.intro a7 a9));clear a1 a2 a3 a4 a5 a6 a7 a8 a9 hsc;go_wp2_with fail;refine(fM eb eo s (.slice ca cn cc) true wb (H.1.keep (A1.2.2.2.2.2.2.2.2.trans A2.2.2)) (H.2.1.keep (A1.2.2.2.2.2.2.2.2.trans A2.2.2)) (by have:=HB.1;omega) HF.out HB.2).mono ?_;rintro e wc ⟨s3,fl3,t3,iv3,fv3,is3,es3,rfl,a1,a2,a3,a4,a5,a6,a7,a8,a9⟩;obtain⟨ia3,ic3,hiv⟩:=aT a3;obtain⟨fa3,fc3,hfv⟩:=aT a7;subst hiv hfv;have hsc:=a1.symm.trans A1.1;obtain⟨rfl,rfl⟩:=Prod.mk.inj hsc;obtain rfl:is3=is2:=lN (a4.trans A1.2.2.2.1.symm);rw[Bool.and_true];have A3:=Z (And.intro a3 a9);clear a1 a2 a3 a4 a5 a6 a7 a8 a9 hsc;go_wp2_with fail;refine jE (fun x=>Hid (Keep wc x∧x.heap[wc.heap.size]? =some (.cells #[.string t2,.slice ia1 is3.length ic1,.slice fa1 es2.length fc1,.bool false,.bool false] 35 (0,0))∧
  x.heap[wc.heap.size+1]? =some (.cells #[.string t2,.slice ia2 is3.length ic2,.slice fa2 es2.length fc2,.bool false,.bool false] 35 (0,0))∧
  x.heap[wc.heap.size+1+1]? =some (.cells #[.string t3,.slice ia3 is3.length ic3,.slice fa3 es3.length fc3,.bool fl3,.bool false] 35 (0,0))))
  (Z ⟨(((Fr.refl wc).alloc _).alloc _).alloc _,Keep.blk (((Fr.refl _).alloc _).alloc _) (ql wc _),Keep.blk ((Fr.refl _).alloc _) (new2 wc _ _),
   by have h:=ql ((wc.alloc (.cells #[.string t2,.slice ia1 is3.length ic1,.slice fa1 es2.length fc1,.bool false,.bool false] 35)).alloc (.cells #[.string t2,.slice ia2 is3.length ic2,.slice fa2 es2.length fc2,.bool false,.bool false] 35)) (.cells #[.string t3,.slice ia3 is3.length ic3,.slice fa3 es3.length fc3,.bool fl3,.bool false] 35);rwa [World.size_alloc,World.size_alloc] at h⟩) ?_
 intro x X;have r1:=Z (aj A1.2.2.1 ((A2.2.2.trans A3.2).trans X.1) (fun _ _ e=>e));have r2:=Z (aj A2.1 (A3.2.trans X.1) (fun _ _ e=>e));have r3:=Z (aj A3.1 X.1 (fun _ _ e=>e));have f1:=Z (aj A1.2.2.2.2.2.2.1 ((A2.2.2.trans A3.2).trans X.1) (fun _ _ e=>e));have f2:=Z (aj A2.2.1 (A3.2.trans X.1) (fun _ _ e=>e));have K0:=Z (((A1.2.2.2.2.2.2.2.2.trans A2.2.2).trans A3.2).trans X.1);refine(iT _ _ is3 _ _ x r1.out r2.out A1.2.2.2.2.1).mono ?_;rintro e wd ⟨rfl,kd⟩;have KD:=Z kd;have y5:=Z (Keep.blk kd X.2.1);have y6:=Z (Keep.blk kd X.2.2.1);have y7:=Z (Keep.blk kd X.2.2.2);clear kd;have c52:wd.cell? ⟨wc.heap.size,2,none⟩=some (.slice fa1 es2.length fc1):=ab y5.out 2;have c62:wd.cell? ⟨wc.heap.size+1,2,none⟩=some (.slice fa2 es2.length fc2):=ab y6.out 2;go_wp2_with fail;clear c52 c62;have hes:es2.length≤500000:=A1.2.2.2.2.2.2.2.1;go_loopw [81] (fun u wr=>∃k:Nat,u= .int .i64 k∧Hid (Keep wd wr∧k≤es2.length)) (fun u _=>es2.length-br u)
 case atStart=>exact⟨0,rfl,Z ⟨Fr.refl wd,Nat.zero_le _⟩⟩
 case round=>
  obtain⟨k,rfl,HR⟩:=hrel;by_cases hk:k<es2.length
  ·have hkz:(k:Int) < (es2.length:Int):=by omega
   obtain⟨g1,rfl⟩:∃g,fa1=some ⟨g,0,none⟩:=by
    rcases f1.out.2 with⟨-,h⟩|⟨g,cap,cur,h,-⟩
    ·omega
    ·cases h;exact⟨g,rfl⟩
   obtain⟨g2,rfl⟩:∃g,fa2=some ⟨g,0,none⟩:=by
    rcases f2.out.2 with⟨-,h⟩|⟨g,cap,cur,h,-⟩
    ·omega
    ·cases h;exact⟨g,rfl⟩
   have hcell:∀ (B g c:Nat),x.ownsRow B 43 3 (.slice (some ⟨g,0,none⟩) es2.length c) es2.length (es2.flatMap jT)→∀j,j<3→wr.cell? ⟨g,k*3+j,none⟩=(jT es2[k])[j]? :=fun B g c hr j hj=>by
    obtain⟨v,e1,e2⟩:=wL (aj hr (KD.trans HR.1) (fun _ _ e=>e)) k hk j hj;rw[e2,←e1,sV jT (fun _=>rfl) es2 k hk j hj]
   have x0:wr.cell? ⟨g1,k*3,none⟩=some (.int .i64 es2[k].ln):=hcell _ g1 fc1 f1.out 0 (by decide);have x1:wr.cell? ⟨g1,k*3+1,none⟩=some (.int .i64 es2[k].cl):=hcell _ g1 fc1 f1.out 1 (by decide);have x2:wr.cell? ⟨g1,k*3+2,none⟩=some (.int .i64 0):=hcell _ g1 fc1 f1.out 2 (by decide);have z0:wr.cell? ⟨g2,k*3,none⟩=some (.int .i64 es2[k].ln):=hcell _ g2 fc2 f2.out 0 (by decide);have z1:wr.cell? ⟨g2,k*3+1,none⟩=some (.int .i64 es2[k].cl):=hcell _ g2 fc2 f2.out 1 (by decide);have z2:wr.cell? ⟨g2,k*3+2,none⟩=some (.int .i64 0):=hcell _ g2 fc2 f2.out 2 (by decide);generalize(es2[k].ln:Int)=ln at x0 z0;generalize(es2[k].cl:Int)=cl at x1 z1;have c52:wr.cell? ⟨wc.heap.size,2,none⟩=some (.slice (some ⟨g1,0,none⟩) es2.length fc1):=ab (Keep.blk HR.1 y5.out) 2;have c62:wr.cell? ⟨wc.heap.size+1,2,none⟩=some (.slice (some ⟨g2,0,none⟩) es2.length fc2):=ab (Keep.blk HR.1 y6.out) 2;clear hcell;go_wp2_with fail;go_quiet (fail);go_wp2_with fail;exact⟨⟨k+1,by simp,Z ⟨HR.1.drewN _,hk⟩⟩,by simp only[br];omega⟩
  ·have hkz:¬ (k:Int) < (es2.length:Int):=by omega
   go_wp2_with fail;refine(H.2.2 wr (K0.trans (KD.trans HR.1)) (by have:=HB.1;omega)).mono ?_;rintro e we ⟨k,f,l,n,how,t,ka,ia,ta,kn,kc,m,ic,tn,tc,rfl,kk,hok⟩;have KW:=Z ((KD.trans HR.1).trans kk);have b5:=Z (Keep.blk KW.out X.2.1);have b7:=Z (Keep.blk KW.out X.2.2.2);have HOK:=Z hok;clear kk hok;have c51:we.cell? ⟨wc.heap.size,1,none⟩=some (.slice ia1 is3.length ic1):=ab b5.out 1;have c71:we.cell? ⟨wc.heap.size+1+1,1,none⟩=some (.slice ia3 is3.length ic3):=ab b7.out 1;have c73:we.cell? ⟨wc.heap.size+1+1,3,none⟩=some (.bool fl3):=ab b7.out 3;have c74:we.cell? ⟨wc.heap.size+1+1,4,none⟩=some (.bool false):=ab b7.out 4;have l5:=af b5.out;have l7:=af b7.out;have hcap:is3.length≤ic1:=by
    rcases r1.out.2 with⟨h,h0⟩|⟨g,cap,cur,h,-,-,h1,-⟩
    ·omega
    ·cases h;exact h1
   by_cases hh:how=0
   case' pos=>
    subst hh;have hfl:fl3=true:=by have:=HOK.out rfl;rw[A1.1] at this;exact this
    subst hfl;go_wp2_with fail
   case' neg=>
    have hq0:(how==0)=false:=by simpa using hh
    go_wp2_with fail
   all_goals
    refine aG (fun y=>Hid (Keep we y)) (Z ((Fr.refl we).alloc _)) ?_;intro y Y;have y51:y.drew.cell? ⟨wc.heap.size,1,none⟩=some (.slice ia1 is3.length ic1):=Keep.cell Y.out c51;have y71:y.drew.cell? ⟨wc.heap.size+1+1,1,none⟩=some (.slice ia3 is3.length ic3):=Keep.cell Y.out c71;have y74:y.drew.cell? ⟨wc.heap.size+1+1,4,none⟩=some (.bool false):=Keep.cell Y.out c74;clear c51 c71 c73 c74 l5 l7;refine wp_region_held_drew (S:=(fun w'=>w'.cell? ⟨wc.heap.size,1,none⟩=some (.slice ia1 is3.length ic1)∧w'.cell? ⟨wc.heap.size+1+1,1,none⟩=some (.slice ia3 is3.length ic3)∧w'.cell? ⟨wc.heap.size+1+1,4,none⟩=some (.bool false))) (by kernel_rfl) ⟨y51,y71,y74⟩ (fun hHeld=>?_)
    iterate 21
     refine dP (v:=?_) 0 rfl rfl (by kernel_rfl) (by rfl) (fun _ _ _ h=>h) ?_ hHeld ?_;rotate_left
     ·intro w hSw
      (try dsimp only at hSw)
      go_simp
      try with_reducible rfl
     try simp only[List.getElem_toArray,List.getElem_cons_zero,List.getElem_cons_succ,Act.put,List.setIfInBounds_toArray,List.set_cons_zero,List.set_cons_succ]
    refine wpAnyH_ready (rs:=[21]) (by kernel_rfl) (by simp) ?_;refine AllReadyH.cons rfl (fun K hK=>?_) AllReadyH.nil;go_simp;go_wp2_with (go_at_call 10;refine(iT _ _ is3 _ _ y.drew (aj r3.out (KW.trans (Y.drewN 1)) (fun _ _ e=>e)) (aj r1.out (KW.trans (Y.drewN 1)) (fun _ _ e=>e)) A1.2.2.2.2.1).mono ?_;rintro e wz ⟨rfl,kz⟩);refine hK.out _ _ ⟨Keep.cell kz y51,Keep.cell kz y71,Keep.cell kz y74⟩ (fun hHeld=>?_);clear hK K
    try simp only[List.getElem_toArray,List.getElem_cons_zero,List.getElem_cons_succ,Act.put,List.setIfInBounds_toArray,List.set_cons_zero,List.set_cons_succ]
    iterate 2
     refine dP (v:=?_) 22 rfl rfl (by kernel_rfl) (by rfl) (fun _ _ _ h=>h) ?_ hHeld ?_;rotate_left
     ·intro w hSw
      (try dsimp only at hSw)
      go_simp
      try with_reducible rfl
     try simp only[List.getElem_toArray,List.getElem_cons_zero,List.getElem_cons_succ,Act.put,List.setIfInBounds_toArray,List.set_cons_zero,List.set_cons_succ]
    refine wpAnyH_done (by kernel_rfl) ?_ _;go_wp2_with fail;exact qh (results_tmp Tryz.results4 _ _ _) rfl ⟨rfl,K0.trans ((KW.trans (Y.drewN 1)).trans kz)⟩
end Go.Proofs.YtnclklfhjbkjhaaGreatDoor
