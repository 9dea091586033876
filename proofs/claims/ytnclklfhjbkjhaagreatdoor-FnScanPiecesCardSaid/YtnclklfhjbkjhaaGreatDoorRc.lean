/- The card of the law FnScanPieces: in what pieces a text comes changes nothing in what a quick look finds, and a text that breaks off is told. No conditions beyond the row's own: the listed variables of the library lie as the card ties them. -/
import Derived.Test.YtnclklfhjbkjhaaGreatDoorRb
import Derived.Test.YtnclklfhjbkjhaaGreatDoorQa
import Derived.Test.YtnclklfhjbkjhaaGreatDoorVb
import Derived.Carry
import Derived.Deep.Slices
import Derived.OpenShut
import Derived.Stop.Joined
import Derived.SevenTiedAt
import Derived.Test.YtnclklfhjbkjhaaGreatDoorTie
import Derived.Test.YtnclklfhjbkjhaaGreatDoorCards
set_option maxRecDepth 1000000
set_option maxHeartbeats 40000000
set_option linter.unusedSimpArgs false
namespace Go.Proofs.YtnclklfhjbkjhaaGreatDoor
open Go.ChangeShapes Go.WideShapes Go.ChangeAt Go.RowKit Go.Lib
open Go.ChangeMaps (open_string shut_string)
theorem ownT:ownKnob Tryz.prog.godebug=none:=by kernel_rfl
theorem wN:Tryz.prog.readableRec 40=true:=by kernel_rfl
theorem sI:laidOutB Tryz.prog=true:=by kernel_rfl
theorem yv:40<Tryz.prog.types.size:=of_decide_eq_true (by kernel_rfl)
theorem xz:Tryz.prog.cellsOf 3=1:=by kernel_rfl
theorem vb{H:Type}{enc:TypeId×Value→H}{W:World}{v:Value}{d:DataW H}{p:List MemPlace}{r:Reach}{b0:Nat}(hval:Value.okWide Tryz.prog W r b0 40 v)(h:DataW.Trod enc Tryz.prog W 0 (fun _=>true) true 40 v d p):CutsV W v:=by
 obtain⟨a,n,c,rfl⟩:=okWide_slice Tryz.underlying40 hval;obtain⟨f,h⟩:=h;rcases Deep.open_slice Tryz.underlying40 h with⟨hc,-⟩|⟨a',len,cap,m,k,D,Pl,hc,-,hl,hm,hmm,-,hel⟩
 ·simp[Value.cells] at hc;obtain⟨rfl,rfl,rfl⟩:=hc;exact .inl rfl
 ·simp[Value.cells] at hc;obtain⟨rfl,rfl,rfl⟩:=hc;obtain⟨b,o,sp⟩:=a';have hv:=hval;simp only[Value.okWide,Tryz.underlying40,Cell.okWide,Cell.ok] at hv;obtain⟨-,-,-,hsp,row,cells,hs,-⟩:=hv;have hsp':sp=none:=hsp;subst hsp';have hb:b<W.heap.size:=by
   rcases Nat.lt_or_ge b W.heap.size with h|h
   ·exact h
   ·simp[World.shape?,Array.getElem?_eq_none h] at hs
  refine .inr ⟨b,o,n,c,rfl,hl,hm,hb,fun i hi=>?_⟩;obtain⟨cs',h1,h2⟩:=hel i (by rw[hmm];simp;omega);obtain⟨z,e,-,-⟩:=DataW.trod_int Tryz.underlying3 h2;refine⟨z,?_⟩;subst e;rw[xz,Nat.mul_one] at h1;have e9:(if i=0 then(⟨b,o,none⟩:Addr) else⟨b,o+i,none⟩)=⟨b,o+i,none⟩:=by
   split
   ·next e=>rw[e];rfl
   ·rfl
  simp[World.cells?,Addr.add,e9] at h1;cases hc:W.cell? ⟨b,o+i,none⟩ with
  |none=>rw[hc] at h1;simp at h1
  |some y=>rw[hc] at h1;simpa using h1
theorem uI(os:Os)(started:os.Started)(H:Type)(enc:TypeId×Value→H):
  ReturnsInHanded {} Tryz.checked os 4 .any (fun w args=>(Rows.fnScanPiecesSpec.pre enc Tryz.prog Tryz.f4 [] false w args∧laidMetH Tryz.prog ik w)∧sizedMet enc Tryz.prog Tryz.f4 (OpenSpec.ofChange Rows.fnScanPiecesSpec) false w args)
   (Rows.fnScanPiecesSpec.post enc Tryz.prog Tryz.f4 false true false false):=by
 refine returnsInHanded_of_change_and (C:=Tryz.checked) (X:=fun w _=>laidMetH Tryz.prog ik w) (fun _ _ _ hh h=>h.of_heap hh) ownT started (by kernel_rfl) Tryz.func4
  (ChangeSpec.witness_shaped (enc:=enc) (C:=Tryz.checked) (os:=os) (X:=fun w _=>laidMetH Tryz.prog ik w) false (tY os) #[.string ⟨#[]⟩,.slice none 0 0] 8 (rc os) (nO os) (by kernel_rfl) (by kernel_rfl) (by kernel_rfl) (oY os _)) ?_
 intro W base args ds gs before hval0 hW _ _ hL _;have hval:∀ (j:Nat) t v,Tryz.f4.params[j]? =some t→args[j]? =some v→Value.okWide Tryz.prog W .any base t v:=hval0;have hW':=hW;obtain⟨p,q,hA0,hV,rfl,_,_⟩:=hW;have hA:DataW.TrodAll enc Tryz.prog W 0 (fun _=>true) true Tryz.f4.params.toList args.toList ds p:=hA0;rw[Tryz.params4] at hA hval;obtain⟨v0,v1,d0,d1,p0,p1,rfl,rfl,rfl,h0,h1⟩:=trodAll_two hA;obtain⟨rfl,rfl⟩:=trodVars_none hV;obtain⟨s,rfl,rfl,rfl,ws⟩:=open_string Tryz.underlying9 (hval 0 9 v0 rfl rfl) h0;simp only[List.append_nil] at hW';have hc:CutsV W v1:=vb (hval 1 40 v1 rfl rfl) h1;obtain⟨⟨eb,eo,hg⟩,hf,hp,hl⟩:=mr hL;refine(gQ eb eo s v1 W hg hc (fun w' k hs=>nY s hs w' (hg.keep k).sg (hf.keep k) (hp.keep k) (hl.keep k))).mono fun e W' ⟨he,hk⟩=>?_
 subst he;have hb:Below W.heap.size W W':=⟨hk.os,hk.tape,hk.output,hk.size,fun k hk'=>hk.block k hk' id⟩;exact⟨_,rfl,_,_,_,[],_,[],hW',trodAll_mk1 (shut_bool Tryz.underlying4 _),trodAll_mk2 (shut_string Tryz.underlying9 ws) (Below.trod sI wN yv h1 hb fun x hx=>hA.lt x (by simp[hx])),rfl,hb.frame _,fun h=>by cases h⟩
theorem fnScanPieces_holds:Rows.FnScanPiecesSaid:=
 OpenClaim.holds_of_wide 4 Tryz.f4 rfl rfl rfl rfl rfl rfl rfl ⟨rfl,rfl,rfl,rfl,rfl⟩ rfl rfl rfl rfl rfl k4a Tryz.func4 k4b k4c k4d
  (fun os started H enc _=>uI os started H enc)
theorem fnScanPieces_card:Rows.FnScanPiecesCardSaid:=
 Claim7.holds_tied_plain_at .later [] [.data,.data,.widerDeep,.widerDeep,.data,.data,.data,.data,.data,.data,.handle,.sentinel,.sentinel,.sentinel,.sentinel,.sentinel,.sentinel,.sentinel,.sentinel,.pinned,.pinned,.pinned] true (true,"076792f835730e19ecfc61523129e994f7279424381900f31a0b79247a0963ac") true
  fnScanPieces_holds (fun _ h=>by cases h) (by kernel_rfl) (fun _ h=>by cases h) fnScanPieces_row_tie rfl ⟨rfl,rfl⟩ (by kernel_rfl) rfl
  (fun f fn hf hfn=>by
   obtain rfl:f=4:=Option.some.inj ((show Tryz.prog.funcNamed "pub-schemata/laws.FnScanPieces" =some 4 by kernel_rfl).symm.trans hf) |>.symm;obtain rfl:fn=Tryz.f4:=(Option.some.inj (Tryz.func4.symm.trans hfn)).symm;exact⟨by kernel_rfl,fun j t ht=>by
    rw[Tryz.params4] at ht;have hm:t∈ [9,40]:=by simpa using Array.mem_of_getElem? ht
    have hall:([9,40].all fun u=> !Tryz.prog.wantsStandIn u)=true:=by kernel_rfl
    exact(show Tryz.prog.wantsStandIn t=false by simpa using List.all_eq_true.1 hall t hm)⟩)
  (by kernel_rfl)
end Go.Proofs.YtnclklfhjbkjhaaGreatDoor
