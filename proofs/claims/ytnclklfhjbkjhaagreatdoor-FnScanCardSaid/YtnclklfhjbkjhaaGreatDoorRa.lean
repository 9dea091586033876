/- The card of the law FnScan: for every text, a quick look at a file that the reference takes finds its package and its imports, and no errors. No conditions beyond the row's own: the listed variables of the library lie as the card ties them. -/
import Derived.Test.YtnclklfhjbkjhaaGreatDoorOc
import Derived.Test.YtnclklfhjbkjhaaGreatDoorQa
import Derived.Test.YtnclklfhjbkjhaaGreatDoorVa
import Derived.OpenShut
import Derived.Stop.Joined
import Derived.SevenTiedAt
import Derived.Test.YtnclklfhjbkjhaaGreatDoorTie
import Derived.Test.YtnclklfhjbkjhaaGreatDoorCards
set_option maxRecDepth 1000000
set_option maxHeartbeats 40000000
set_option linter.unusedSimpArgs false
namespace Go.Proofs.YtnclklfhjbkjhaaGreatDoor
open Go.RowKit Go.Lib
def tF(w:World)(e:Ending)(w':World):Prop:=e= .returned (.bool true)∧Keep w w'
theorem qz(s:ByteArray)(hs:s.size≤100000)(w:World)(hg:SG w)(hf:FG w)(hp:PT w)(hl:LT w):Calls Tryz.prog 6 #[.string s] w (kR s w):=
 ku s hs w (fun d b w' k hb hd _=>fH d b hb w' hd (hg.keep k)) (fun d w' k hd hok=>eN d w' hd hok (hf.keep k) (hp.keep k) (hl.keep k) (hg.keep k))
theorem ox(eb eo:Nat)(s:ByteArray)(w:World)(hg:WG eb eo w)(hf:FG w)(hp:PT w)(hl:LT w):Calls Tryz.prog 3 #[.string s] w (tF w):=by
 have H:=Z (And.intro hg (And.intro hf (And.intro hp hl)));clear hg hf hp hl;go_enter Tryz.func3,Tryz.ntmps3;by_cases h1:s.size>2147483647
 ·have g1:(s.size:Int) >2147483647:=by omega
  go_wp2_with fail;exact qh (results_tmp Tryz.results3 _ _ _) rfl ⟨rfl,Fr.refl w⟩
 ·have g1:¬ (s.size:Int) >2147483647:=by omega
  go_wp2_with (go_at_call 5;refine(gZ s w).mono ?_;rintro e w1 ⟨rfl,b,rfl,hb⟩;refine Hid.out ?_);refine Z ?_;cases b
  ·obtain⟨h20,hbom⟩:=hb rfl;have HB:=Z (And.intro h20 hbom);clear h20 hbom hb;go_wp2_with fail;refine(qz s (by have:=HB.1;omega) w1 H.1.sg H.2.1 H.2.2.1 H.2.2.2).mono ?_;rintro e w2 ⟨k,f,l,n,how,t,ka,ia,ta,kn,kc,m,ic,tn,tc,rfl,kk,hok⟩;have KK:=Z kk;have HOK:=Z hok;clear kk hok;by_cases hh:how=0
   ·subst hh;obtain⟨B,hB,hpo⟩:=HOK.out rfl;obtain⟨ks,x,u,ds,sc,q1,q2,q3,q4,q5,q6,q7,q8⟩:=j9 hpo;have HQ:=Z (And.intro q1 (And.intro q2 (And.intro q3 (And.intro q4 (And.intro q5 (And.intro q6 (And.intro q7 q8)))))));clear q1 q2 q3 q4 q5 q6 q7 q8 hpo;go_wp2_with fail;have ka1:Keep w2 (w2.alloc (.cells #[.int .i64 k,.int .i64 f,.int .i64 l,.string t,.int .u64 n,.slice ka kn kc] 26)):=(Fr.refl w2).alloc _;have hb1:=ql w2 (.cells #[.int .i64 k,.int .i64 f,.int .i64 l,.string t,.int .u64 n,.slice ka kn kc] 26);refine(lB B k f l n t ka kn kc (ks++ [x]) _ (HQ.2.1.keep ka1) (by have:=HQ.2.2.2.2.1;simp;omega)).mono ?_;rintro e w3 ⟨np,rfl,k3⟩;have K3:=Z (ka1.trans k3);obtain⟨z0,z1,z2,z3,z4,z5,-⟩:=c_ (Keep.blk k3 hb1);have HB3:=Z (Keep.blk k3 hb1);clear ka1 hb1 k3;by_cases hnp:np>1
    ·go_wp2_with fail;exact qh (results_tmp Tryz.results3 _ _ _) rfl ⟨rfl,KK.trans K3.out⟩
    ·go_wp2_with fail;refine(kg eb eo s w3 (H.1.keep (KK.trans K3.out)) (by have:=HB.1;omega) (xC HQ.1) HB.2).mono ?_;rintro e w4 ⟨s1,fl1,t1,iv1,fv1,is1,es1,rfl,a1,a2,a3,a4,a5,a6,a7,a8,a9⟩;obtain⟨ia1,ic1,hiv⟩:=aT a3;obtain⟨fa1,fc1,hfv⟩:=aT a7;subst hiv hfv;have hsc:=a1.symm.trans HQ.2.2.2.2.2.1;obtain⟨rfl,rfl⟩:=Prod.mk.inj hsc;have he0:es1=[]:=by rw[a6];simpa using HQ.2.2.2.2.2.2.1
     subst he0;have HB4:=Z (Keep.blk a9 HB3.out);obtain⟨y0,y1,y2,y3,y4,y5,-⟩:=c_ HB4.out;have l4:=af HB4.out;have HA:=Z (And.intro a2 (And.intro a3 (And.intro a4 (And.intro a5 a9))));clear z0 z1 z2 z3 z4 z5 a1 a2 a3 a4 a5 a6 a7 a8 a9 hsc;go_wp2_with fail;have k5:Keep w4 (w4.alloc (.cells #[.string t1,.slice ia1 is1.length ic1,.slice fa1 0 fc1,.bool false,.bool false] 35)):=(Fr.refl w4).alloc _;have hb5:=ql w4 (.cells #[.string t1,.slice ia1 is1.length ic1,.slice fa1 0 fc1,.bool false,.bool false] 35);have k25:=(K3.trans HA.2.2.2.2).trans k5;have hB5:∀g,B+1≤g→(Value.slice ka kn kc).ownBlock≠some g→¬False:=fun _ _ _ h=>h
     refine(ni B (B+1) k f l n t ka kn kc ks x u ds _ (HQ.2.1.keep k25) HQ.2.2.2.2.1 HQ.2.2.1 (HQ.2.2.2.1.kept k25 (fun _ _ _ h=>h))).mono ?_;rintro e w6 ⟨is2,t2,iv2,rfl,b1,b2,b3,b4⟩;obtain⟨ia2,ic2,hiv2⟩:=aT b2;subst hiv2;have hacc:=b4.trans HQ.2.2.2.2.2.2.2.symm;obtain⟨hac1,hac2⟩:=Prod.mk.inj hacc;have hte:t2=t1:=oK (hac2.trans HA.1.symm);have hie:is2=is1:=lN (hac1.trans HA.2.2.1.symm);subst hte hie;have hb6:=Keep.blk b1 hb5;have v0:=ab hb6 0;have v1:=ab hb6 1;have v2:=ab hb6 2;have v3:=ab hb6 3;have v4:=ab hb6 4;have HE:=Z (And.intro b1 (And.intro b2 (And.intro k5 k25)));clear b1 b2 b3 b4 hacc hac1 hac2 hb5 hb6 k5 k25 hB5 y0 y1 y2 y3 y4 y5 l4;go_wp2_with (go_at_call 10;refine(iT _ _ is2 (w3.heap.size) (w4.heap.size+1) _ (aj HA.2.1 ((HE.2.2.1).trans HE.1) (fun _ _ e=>e)) (bE HE.2.1 (by simp)) HA.2.2.2.1).mono ?_;rintro e w7 ⟨rfl,k7⟩);exact qh (results_tmp Tryz.results3 _ _ _) rfl ⟨rfl,KK.trans (HE.2.2.2.trans (HE.1.trans k7))⟩
   ·have hq0:(how !=0)=true:=by simpa using hh
    go_wp2_with fail;exact qh (results_tmp Tryz.results3 _ _ _) rfl ⟨rfl,KK.alloc _⟩
  ·go_wp2_with fail;exact qh (results_tmp Tryz.results3 _ _ _) rfl ⟨rfl,Fr.refl _⟩
end Go.Proofs.YtnclklfhjbkjhaaGreatDoor
namespace Go.Proofs.YtnclklfhjbkjhaaGreatDoor
open Go.ChangeShapes Go.WideShapes Go.ChangeAt Go.RowKit Go.Lib
open Go.ChangeMaps (open_string shut_string)
theorem ownT:ownKnob Tryz.prog.godebug=none:=by kernel_rfl
theorem uJ(os:Os)(started:os.Started)(H:Type)(enc:TypeId×Value→H):
  ReturnsInHanded {} Tryz.checked os 3 .any (fun w args=>(Rows.fnScanSpec.pre enc Tryz.prog Tryz.f3 [] false w args∧laidMetH Tryz.prog ik w)∧sizedMet enc Tryz.prog Tryz.f3 (OpenSpec.ofChange Rows.fnScanSpec) false w args)
   (Rows.fnScanSpec.post enc Tryz.prog Tryz.f3 false true false false):=by
 refine returnsInHanded_of_change_and (C:=Tryz.checked) (X:=fun w _=>laidMetH Tryz.prog ik w) (fun _ _ _ hh h=>h.of_heap hh) ownT started (by kernel_rfl) Tryz.func3
  (ChangeSpec.witness_shaped (enc:=enc) (C:=Tryz.checked) (os:=os) (X:=fun w _=>laidMetH Tryz.prog ik w) false (tY os) #[.string ⟨#[]⟩] 8 (rc os) (nP os) (by kernel_rfl) (by kernel_rfl) (by kernel_rfl) (oY os _)) ?_
 intro W base args ds gs before hval0 hW _ _ hL _;have hval:∀ (j:Nat) t v,Tryz.f3.params[j]? =some t→args[j]? =some v→Value.okWide Tryz.prog W .any base t v:=hval0;have hW':=hW;obtain⟨p,q,hA0,hV,rfl,_,_⟩:=hW;have hA:DataW.TrodAll enc Tryz.prog W 0 (fun _=>true) true Tryz.f3.params.toList args.toList ds p:=hA0;rw[Tryz.params3] at hA hval;obtain⟨v0,d0,rfl,rfl,h0⟩:=trodAll_one hA;obtain⟨rfl,rfl⟩:=trodVars_none hV;obtain⟨s,rfl,rfl,rfl,ws⟩:=open_string Tryz.underlying9 (hval 0 9 v0 rfl rfl) h0;simp only[List.append_nil] at hW';obtain⟨⟨eb,eo,hg⟩,hf,hp,hl⟩:=mr hL;refine(ox eb eo s W hg hf hp hl).mono fun e W' ⟨he,hk⟩=>?_
 subst he;have hb:Below W.heap.size W W':=⟨hk.os,hk.tape,hk.output,hk.size,fun k hk'=>hk.block k hk' id⟩;exact⟨_,rfl,_,_,_,[],[],[],hW',trodAll_mk1 (shut_bool Tryz.underlying4 _),trodAll_mk1 (shut_string Tryz.underlying9 ws),rfl,hb.frame _,fun h=>by cases h⟩
theorem fnScan_holds:Rows.FnScanSaid:=
 OpenClaim.holds_of_wide 3 Tryz.f3 rfl rfl rfl rfl rfl rfl rfl ⟨rfl,rfl,rfl,rfl,rfl⟩ rfl rfl rfl rfl rfl k3a Tryz.func3 k3b k3c k3d
  (fun os started H enc _=>uJ os started H enc)
theorem fnScan_card:Rows.FnScanCardSaid:=
 Claim7.holds_tied_plain_at .later [] [.data,.data,.widerDeep,.widerDeep,.data,.data,.data,.data,.data,.data,.handle,.sentinel,.sentinel,.sentinel,.sentinel,.sentinel,.sentinel,.sentinel,.sentinel,.pinned,.pinned,.pinned] true (true,"076792f835730e19ecfc61523129e994f7279424381900f31a0b79247a0963ac") true
  fnScan_holds (fun _ h=>by cases h) (by kernel_rfl) (fun _ h=>by cases h) fnScan_row_tie rfl ⟨rfl,rfl⟩ (by kernel_rfl) rfl
  (fun f fn hf hfn=>by
   obtain rfl:f=3:=Option.some.inj ((show Tryz.prog.funcNamed "pub-schemata/laws.FnScan" =some 3 by kernel_rfl).symm.trans hf) |>.symm;obtain rfl:fn=Tryz.f3:=(Option.some.inj (Tryz.func3.symm.trans hfn)).symm;exact⟨by kernel_rfl,fun j t ht=>by
    rw[Tryz.params3] at ht;have hm:t∈ [9]:=by simpa using Array.mem_of_getElem? ht
    have hall:([9].all fun u=> !Tryz.prog.wantsStandIn u)=true:=by kernel_rfl
    exact(show Tryz.prog.wantsStandIn t=false by simpa using List.all_eq_true.1 hall t hm)⟩)
  (by kernel_rfl)
end Go.Proofs.YtnclklfhjbkjhaaGreatDoor
