/- Part of the proof: N1 N2. -/
import Derived.Test.YtnclklfhjbkjhaaGreatDoorMc
set_option maxRecDepth 1000000
set_option maxHeartbeats 40000000
set_option linter.unusedSimpArgs false
namespace Go.Proofs.YtnclklfhjbkjhaaGreatDoor
open Tryz
open Go.RowKit Go.Lib
theorem zu(t:ByteArray)(w:World):(Instr.typeAssert (.iface 9 (.string t)) 20 9 false).run prog w= .ok (.string t) w:=by kernel_rfl
def e7(n:Nat):Code→Option Code
 | .region m ops d=>if m=n then some (.region m ops d) else none
 | .seq a b=>match e7 n a with
  |some c=>some c
  |none=>e7 n b
 | .block _ c=>e7 n c
 | .loop c=>e7 n c
 | .scope c=>e7 n c
 | .cond _ a b=>match e7 n a with
  |some c=>some c
  |none=>e7 n b
 |_=>none
noncomputable def yw(n:Nat):Code:=(Tryz.f18.body.bind (e7 n)).getD .skip
def zz:Exit→Act→World→Prop:=fun _ _ _=>False
theorem lT(C:RC)(rr T:Nat)(R:List Int)(p pv:Ps)(fn:ByteArray)(b:Bl)(s:Sc)(x:Lx)(A P:Nat→Prop)(V:Nat→Value)(N:Nat→Nat)(X:Nat→List Value)(w:World)(a:Act)(Q0:Exit→Act→World→Prop)(l:List (List UInt8))
  (HS:Hid (ScS C rr T R p pv fn b s A P V N X w)) (HI:Hid (s.imp=some l)) (hsm:(∀l,s.imp=some l→l.length≤500000∧l.flatten.length≤1000000000)∧s.imports.length≤500000) (hF:Fr18 (fun u=>SSl b s V u∧zI x u) a)
  (hK0:∀a' wx,xS C rr T R p pv fn b {s with imports:=s.imports++ [(l.flatten,s.pub,s.weak)]} x a' wx→Q0 .normal a' wx):
  (yw 31).wp prog Q0 a w:=by
 suffices hmain:(yw 31).wp prog (Exit.then (fun a' wx=>xS C rr T R p pv fn b {s with imports:=s.imports++ [(l.flatten,s.pub,s.weak)]} x a' wx) zz) a w from wp_mono hmain fun e a' wx hh=>by
  cases e<;>first|exact hK0 _ _ hh|exact False.elim hh
 clear hK0;obtain⟨u,⟨hu,ht⟩,rfl⟩:=hF;have HT:=Z ht;clear ht;have hi:=HS.rel.imp;rw[HI.out] at hi;obtain⟨⟨g,c,hv⟩,hn,ss,hX,hss⟩:=hi;have h0:=HS.sb.rows 0 (by decide);rw[hX] at h0;have HJN:Hid (w.drew.ownsRow (C.bb+1) 9 1 (V 0) (N 0) (ss.map .string)∧N 0=ss.length∧(ss.map (·.toList)).flatten.length≤1000000000∧ss.length≤1000000):=by
  have h1:=hsm.1 l HI.out;have h2:ss.length=l.length:=by rw[←hss,List.length_map]
  exact Z ⟨h0,by omega,by rw[hss];exact h1.2,by omega⟩
 have HSS:=Z hss;obtain⟨t0,ht0,-⟩:=HS.fix.s;have y0:w.drew.cell? ⟨b.sb,1,none⟩=some (V 4):=ab ht0 1;have hp3:=HS.fix.p.2.2.1;have HN4:Hid (¬ (V 4).ownBlock=some b.sb):=Z <| HS.off 4 (by decide) _ hp3;have hm4:N 4≤1000000:=by
  have:=HS.rel.imps.1;have:=hsm.2;omega
 have HBB:=Z HS.bbl;unfold gP;rw[hu.u4,hu.u6,hu.u7,hu.u8,hu.u9,hu.u10,hu.u11,hu.u12,hu.u13,hu.u14,hu.u15,hu.u16,hu.u17,hu.u18,HT.1];clear hu hsm hv hn hX hss h0 ht0 hp3
 conv=>arg 2;whnf
 refine wp_region_held_drew (S:=(fun _=>True)) (by kernel_rfl) trivial (fun hHeld=>?_);refine dP (v:=?_) 0 rfl rfl (by kernel_rfl) (by rfl) (fun _ _ _ h=>h) ?_ hHeld ?_;rotate_left
 ·intro w hSw
  (try dsimp only at hSw)
  go_simp
  try with_reducible rfl
 try simp only[qa,qb,qc,Act.put,qd,qe,qf]
 refine dP (v:=?_) 2 rfl rfl (by kernel_rfl) (by rfl) (fun _ _ _ h=>h) ?_ hHeld ?_;rotate_left
 ·intro w hSw
  (try dsimp only at hSw)
  go_simp
  try with_reducible rfl
 try simp only[qa,qb,qc,Act.put,qd,qe,qf]
 iterate 2
  refine dP (v:=?_) 4 rfl rfl (by kernel_rfl) (by rfl) (fun _ _ _ h=>h) ?_ hHeld ?_;rotate_left
  ·intro w hSw
   (try dsimp only at hSw)
   go_simp
   try with_reducible rfl
  try simp only[qa,qb,qc,Act.put,qd,qe,qf]
 refine wpAnyH_ready (rs:=[1,3]) (by kernel_rfl) (by simp) ?_;refine AllReadyH.cons rfl (fun K hK=>?_) ?_
 ·go_simp;refine hK.out _ _ trivial (fun hHeld=>?_);clear hK K
  try simp only[qa,qb,qc,Act.put,qd,qe,qf]
  refine wpAnyH_ready (rs:=[3]) (by kernel_rfl) (by simp) ?_;refine AllReadyH.cons rfl (fun K hK=>?_) AllReadyH.nil;go_simp;go_wp2_with ((go_at_call 37;refine(dZ HJN.1 HJN.2.1 HJN.2.2.1 HJN.2.2.2).mono ?_;rintro e w5 ⟨⟨tt,rfl,htt⟩,k5⟩;have HTT:=Z htt;have y5:=Keep.cell k5 y0;have y6:(w5.alloc (.cells #[.string tt,.bool s.pub,.bool s.weak] 70)).cell? ⟨b.sb,1,none⟩=some (V 4):=Keep.cell ((Fr.refl w5).alloc _) y5;have HS5:=Z (((HS.keep (Fr.refl w).drew).keep k5).keep ((Fr.refl w5).alloc (.cells #[.string tt,.bool s.pub,.bool s.weak] 70)));have HOWN:=Z (HS5.sb.rows 4 (by decide));have hb5:=HS5.bbl;clear htt k5));refine hK.out _ _ trivial (fun hHeld=>?_);clear hK K
  try simp only[qa,qb,qc,Act.put,qd,qe,qf]
  refine dP (v:=?_) 6 rfl rfl (by kernel_rfl) (by rfl) (fun _ _ _ h=>h) ?_ hHeld ?_;rotate_left
  ·intro w hSw
   (try dsimp only at hSw)
   go_simp
   try with_reducible rfl
  try simp only[qa,qb,qc,Act.put,qd,qe,qf]
  refine wpAnyH_ready (rs:=[7]) (by kernel_rfl) (by simp) ?_;refine AllReadyH.cons rfl (fun K hK=>?_) AllReadyH.nil;go_simp;refine hK.out _ _ trivial (fun hHeld=>?_);clear hK K
  try simp only[qa,qb,qc,Act.put,qd,qe,qf]
  refine wpAnyH_ready (rs:=[8]) (by kernel_rfl) (by simp) ?_;refine AllReadyH.cons rfl (fun K hK=>?_) AllReadyH.nil;refine cU (by rfl) (.tmp 89) (.tmp 95) 59 70 _ 3 24 underlying59 oo (by rfl) (by decide) (by decide) (by rfl) (B:=C.bb+1) (m:=N 4) (v:=V 4) (xs:=X 4) (by rfl) HOWN.out _ #[.string tt,.bool s.pub,.bool s.weak] (by rfl) (by simp[Value.oneCell']) (ql w5 _) (c:=1) (by rfl) hm4 hb5 ?_;intro g9 kc9 w9 hr9 f9 hg9;have HO9:Hid (OwnStep _ (V 4) (.slice (some ⟨g9,0,none⟩) (N 4+1) kc9)):=Z (fun g hg=>by(have e:g9=g:=Option.some.inj hg);subst e;exact hg9);obtain⟨t9,ht9,-⟩:=HS5.fix.s;have hb9:=f9.blk HN4.out ht9;have c9:=ab hb9 1;have z9:=ae hb9 1;have l9:=af hb9;simp only[show(#[Value.string t9,V 4]:Array Value)[1]? =some (V 4) from rfl] at c9;have HR9:=Z hr9;have HF9:=Z f9;clear hr9 f9 hg9 ht9 hb9;go_simp;refine hK.out _ _ trivial (fun hHeld=>?_);clear hK K
  try simp only[qa,qb,qc,Act.put,qd,qe,qf]
  refine dP (v:=?_) 9 rfl rfl (by kernel_rfl) (by rfl) (fun _ _ _ h=>h) ?_ hHeld ?_;rotate_left
  ·intro w hSw
   (try dsimp only at hSw)
   go_simp
   try with_reducible rfl
  try simp only[qa,qb,qc,Act.put,qd,qe,qf]
  refine wpAnyH_ready (rs:=[10]) (by kernel_rfl) (by simp) ?_;refine AllReadyH.cons rfl (fun K hK=>?_) AllReadyH.nil;go_simp;refine hK.out _ _ trivial (fun hHeld=>?_);clear hK K
  try simp only[qa,qb,qc,Act.put,qd,qe,qf]
  refine wpAnyH_done (by kernel_rfl) ?_ _;go_wp2_with fail;obtain⟨A',h⟩:=HS5.imported (tt,s.pub,s.weak) HR9 HF9 HO9.out;have htt:tt.toList=l.flatten:=by rw[HTT.out,HSS.out]
  simp only[htt] at h;exact⟨A',P,_,_,_,h,Fr18.mk rfl rfl ⟨⟨rfl,rfl,rfl,rfl,rfl,rfl,rfl,rfl,rfl,rfl,rfl,rfl,rfl,rfl⟩,rfl,HT.2⟩⟩
 refine AllReadyH.cons rfl (fun K hK=>?_) AllReadyH.nil;go_simp;go_wp2_with ((go_at_call 37;refine(dZ HJN.1 HJN.2.1 HJN.2.2.1 HJN.2.2.2).mono ?_;rintro e w5 ⟨⟨tt,rfl,htt⟩,k5⟩;have HTT:=Z htt;have y5:=Keep.cell k5 y0;have y6:(w5.alloc (.cells #[.string tt,.bool s.pub,.bool s.weak] 70)).cell? ⟨b.sb,1,none⟩=some (V 4):=Keep.cell ((Fr.refl w5).alloc _) y5;have HS5:=Z (((HS.keep (Fr.refl w).drew).keep k5).keep ((Fr.refl w5).alloc (.cells #[.string tt,.bool s.pub,.bool s.weak] 70)));have HOWN:=Z (HS5.sb.rows 4 (by decide));have hb5:=HS5.bbl;clear htt k5));refine hK.out _ _ trivial (fun hHeld=>?_);clear hK K
 try simp only[qa,qb,qc,Act.put,qd,qe,qf]
 refine dP (v:=?_) 6 rfl rfl (by kernel_rfl) (by rfl) (fun _ _ _ h=>h) ?_ hHeld ?_;rotate_left
 ·intro w hSw
  (try dsimp only at hSw)
  go_simp
  try with_reducible rfl
 try simp only[qa,qb,qc,Act.put,qd,qe,qf]
 refine wpAnyH_ready (rs:=[1,7]) (by kernel_rfl) (by simp) ?_;refine AllReadyH.cons rfl (fun K hK=>?_) ?_
 ·go_simp;refine hK.out _ _ trivial (fun hHeld=>?_);clear hK K
  try simp only[qa,qb,qc,Act.put,qd,qe,qf]
  refine wpAnyH_ready (rs:=[7]) (by kernel_rfl) (by simp) ?_;refine AllReadyH.cons rfl (fun K hK=>?_) AllReadyH.nil;go_simp;refine hK.out _ _ trivial (fun hHeld=>?_);clear hK K
  try simp only[qa,qb,qc,Act.put,qd,qe,qf]
  refine wpAnyH_ready (rs:=[8]) (by kernel_rfl) (by simp) ?_;refine AllReadyH.cons rfl (fun K hK=>?_) AllReadyH.nil;refine cU (by rfl) (.tmp 89) (.tmp 95) 59 70 _ 3 24 underlying59 oo (by rfl) (by decide) (by decide) (by rfl) (B:=C.bb+1) (m:=N 4) (v:=V 4) (xs:=X 4) (by rfl) HOWN.out _ #[.string tt,.bool s.pub,.bool s.weak] (by rfl) (by simp[Value.oneCell']) (ql w5 _) (c:=1) (by rfl) hm4 hb5 ?_;intro g9 kc9 w9 hr9 f9 hg9;have HO9:Hid (OwnStep _ (V 4) (.slice (some ⟨g9,0,none⟩) (N 4+1) kc9)):=Z (fun g hg=>by(have e:g9=g:=Option.some.inj hg);subst e;exact hg9);obtain⟨t9,ht9,-⟩:=HS5.fix.s;have hb9:=f9.blk HN4.out ht9;have c9:=ab hb9 1;have z9:=ae hb9 1;have l9:=af hb9;simp only[show(#[Value.string t9,V 4]:Array Value)[1]? =some (V 4) from rfl] at c9;have HR9:=Z hr9;have HF9:=Z f9;clear hr9 f9 hg9 ht9 hb9;go_simp;refine hK.out _ _ trivial (fun hHeld=>?_);clear hK K
  try simp only[qa,qb,qc,Act.put,qd,qe,qf]
  refine dP (v:=?_) 9 rfl rfl (by kernel_rfl) (by rfl) (fun _ _ _ h=>h) ?_ hHeld ?_;rotate_left
  ·intro w hSw
   (try dsimp only at hSw)
   go_simp
   try with_reducible rfl
  try simp only[qa,qb,qc,Act.put,qd,qe,qf]
  refine wpAnyH_ready (rs:=[10]) (by kernel_rfl) (by simp) ?_;refine AllReadyH.cons rfl (fun K hK=>?_) AllReadyH.nil;go_simp;refine hK.out _ _ trivial (fun hHeld=>?_);clear hK K
  try simp only[qa,qb,qc,Act.put,qd,qe,qf]
  refine wpAnyH_done (by kernel_rfl) ?_ _;go_wp2_with fail;obtain⟨A',h⟩:=HS5.imported (tt,s.pub,s.weak) HR9 HF9 HO9.out;have htt:tt.toList=l.flatten:=by rw[HTT.out,HSS.out]
  simp only[htt] at h;exact⟨A',P,_,_,_,h,Fr18.mk rfl rfl ⟨⟨rfl,rfl,rfl,rfl,rfl,rfl,rfl,rfl,rfl,rfl,rfl,rfl,rfl,rfl⟩,rfl,HT.2⟩⟩
 refine AllReadyH.cons rfl (fun K hK=>?_) AllReadyH.nil;go_simp;refine hK.out _ _ trivial (fun hHeld=>?_);clear hK K
 try simp only[qa,qb,qc,Act.put,qd,qe,qf]
 refine wpAnyH_ready (rs:=[1]) (by kernel_rfl) (by simp) ?_;refine AllReadyH.cons rfl (fun K hK=>?_) AllReadyH.nil;go_simp;refine hK.out _ _ trivial (fun hHeld=>?_);clear hK K
 try simp only[qa,qb,qc,Act.put,qd,qe,qf]
 refine wpAnyH_ready (rs:=[8]) (by kernel_rfl) (by simp) ?_;refine AllReadyH.cons rfl (fun K hK=>?_) AllReadyH.nil;refine cU (by rfl) (.tmp 89) (.tmp 95) 59 70 _ 3 24 underlying59 oo (by rfl) (by decide) (by decide) (by rfl) (B:=C.bb+1) (m:=N 4) (v:=V 4) (xs:=X 4) (by rfl) HOWN.out _ #[.string tt,.bool s.pub,.bool s.weak] (by rfl) (by simp[Value.oneCell']) (ql w5 _) (c:=1) (by rfl) hm4 hb5 ?_;intro g9 kc9 w9 hr9 f9 hg9;have HO9:Hid (OwnStep _ (V 4) (.slice (some ⟨g9,0,none⟩) (N 4+1) kc9)):=Z (fun g hg=>by(have e:g9=g:=Option.some.inj hg);subst e;exact hg9);obtain⟨t9,ht9,-⟩:=HS5.fix.s;have hb9:=f9.blk HN4.out ht9;have c9:=ab hb9 1;have z9:=ae hb9 1;have l9:=af hb9;simp only[show(#[Value.string t9,V 4]:Array Value)[1]? =some (V 4) from rfl] at c9;have HR9:=Z hr9;have HF9:=Z f9;clear hr9 f9 hg9 ht9 hb9;go_simp;refine hK.out _ _ trivial (fun hHeld=>?_);clear hK K
 try simp only[qa,qb,qc,Act.put,qd,qe,qf]
 refine dP (v:=?_) 9 rfl rfl (by kernel_rfl) (by rfl) (fun _ _ _ h=>h) ?_ hHeld ?_;rotate_left
 ·intro w hSw
  (try dsimp only at hSw)
  go_simp
  try with_reducible rfl
 try simp only[qa,qb,qc,Act.put,qd,qe,qf]
 refine wpAnyH_ready (rs:=[10]) (by kernel_rfl) (by simp) ?_;refine AllReadyH.cons rfl (fun K hK=>?_) AllReadyH.nil;go_simp;refine hK.out _ _ trivial (fun hHeld=>?_);clear hK K
 try simp only[qa,qb,qc,Act.put,qd,qe,qf]
 refine wpAnyH_done (by kernel_rfl) ?_ _;go_wp2_with fail;obtain⟨A',h⟩:=HS5.imported (tt,s.pub,s.weak) HR9 HF9 HO9.out;have htt:tt.toList=l.flatten:=by rw[HTT.out,HSS.out]
 simp only[htt] at h;exact⟨A',P,_,_,_,h,Fr18.mk rfl rfl ⟨⟨rfl,rfl,rfl,rfl,rfl,rfl,rfl,rfl,rfl,rfl,rfl,rfl,rfl,rfl⟩,rfl,HT.2⟩⟩
end Go.Proofs.YtnclklfhjbkjhaaGreatDoor
namespace Go.Proofs.YtnclklfhjbkjhaaGreatDoor
open Tryz
open Go.RowKit Go.Lib
def xW(c:Code)(F:Sc→Lx→Sc):Prop:=
 ∀ (C:RC) (rr T:Nat) (R:List Int) (p:Ps) (fn:ByteArray) (b:Bl) (s:Sc) (x:Lx) (a:Act) (w:World) (J K:Act→World→Prop) (Q:Exit→Act→World→Prop),
  xS C rr T R p x.pv fn b s x a w→Small s→Hid ((txt x).length≤100000000)→PsOk 1000000 x.pv→PsOk 1000000 s.pl→(x.k=65537∨x.k=65539→x.t≠none)→(∀a' wx,xS C rr T R p x.pv fn b (F s x) x a' wx→J a' wx)→(∀a' wx,Met J a' wx→K a' wx)→
  c.wp prog (Exit.then K Q) a w
theorem dw{s t:ByteArray}(h:s.toList=t.toList):s=t:=by
 rw[qi,qi] at h;exact ByteArray.ext (Array.ext' h)
section
variable {C:RC} {rr T:Nat} {R:List Int} {p pv:Ps} {fn:ByteArray} {b:Bl} {s:Sc} {A P:Nat→Prop} {V:Nat→Value} {N:Nat→Nat} {X:Nat→List Value} {w W w3:World}
theorem ScS.err5(h:ScS C rr T R p pv fn b s A P V N X w)(k1:Keep w W){k:Nat}{sp:Value}(hk:W.heap.size≤k)(hb:j5 k sp w3)(kk:Keep W w3):ScS C rr T R p pv fn b s (fun j=>A j∨j=k) (fun j=>P j∨j=k) V N X (w3.alloc (.cells #[ce k] 75))∧j5 k sp (w3.alloc (.cells #[ce k] 75)):=by
 obtain⟨v,hb⟩:=hb;have h1:=h.add (k1.trans kk) k ⟨Nat.le_trans k1.size hk,af hb⟩;have ka:Keep w3 (w3.alloc (.cells #[ce k] 75)):=(Fr.refl w3).alloc _;exact⟨h1.keep ka,v,Keep.blk ka hb⟩
theorem ScS.cells(h:ScS C rr T R p pv fn b s A P V N X w):w.cell? ⟨b.fb,0,none⟩=some (.string fn)∧w.cell? ⟨b.gb,0,none⟩=some (.func (.func 30) #[] #[.pointer (some ⟨b.fb,0,none⟩)])∧w.cell? ⟨b.xb,0,none⟩=some (.pointer (some ⟨b.lx,0,none⟩))∧d_ b.lx rr p pv w:=by
 obtain⟨ok,hl⟩:=h.sb.lxs;exact⟨ab h.fix.f 0,ab h.fix.g 0,ab h.fix.x 0,hl.lb⟩
theorem ScS.flags(h:ScS C rr T R p pv fn b s A P V N X w)(pu we:Bool):ScS C rr T R p pv fn b {s with pub:=pu,weak:=we} A P V N X w:=⟨h.sb,⟨h.rel.imp,h.rel.pkg,h.rel.errs,h.rel.stk,h.rel.imps⟩,h.fix,h.low,h.sg,h.old⟩
end
theorem gN{s:Sc}{x:Lx}(h:s.imp=none):bI s x=s:=by unfold bI;rw[h]
theorem jo{s:Sc}{x:Lx}{l:List (List UInt8)}(h:s.imp=some l)(hk:x.k=65537):bI s x={s with imp:=some (l++ [txt x])}:=by unfold bI;rw[h];simp only;rw[if_pos hk]
theorem fw{s:Sc}{x:Lx}(h:s.imp=some [])(hk:x.k=65539)(ht:txt x=bX∨txt x=dQ):bI s x={s with pub:=txt x==bX,weak:=txt x==dQ}:=by
 unfold bI;rw[h];simp only;rw[if_neg (by omega),if_pos ⟨hk,trivial,ht⟩]
theorem eW{s:Sc}{x:Lx}{l:List (List UInt8)}(h:s.imp=some l)(hk:x.k≠65537)(hl:l≠[]):bI s x={s with errs:=if x.k=59 then s.errs else s.errs++ [fu x.pv],imports:=s.imports++ [(l.flatten,s.pub,s.weak)],imp:=none}:=by
 unfold bI;rw[h];simp only;rw[if_neg hk,if_neg (fun e=>hl e.2.1),if_pos hl]
theorem gw{s:Sc}{x:Lx}(h:s.imp=some [])(hk:x.k≠65537)(ht:x.k=65539→¬ (txt x=bX∨txt x=dQ)):bI s x={s with errs:=s.errs++ [fu x.pv],imp:=none}:=by
 unfold bI;rw[h];simp only;rw[if_neg hk,if_neg (fun e=>ht e.1 e.2.2),if_neg (by simp)]
theorem rA:xW (ve 19) bI:=by
 intro C rr T R p fn b s x a w J K Q h hsm htx hpv hpl htk hJ hK;obtain⟨A,P,V,N,X,hs,u,⟨hu,ht⟩,rfl⟩:=h;have HU:=Z hu;have HT:=Z ht;have HS:=Z hs;have HSM:=Z hsm;unfold gP;rw[hu.u4,hu.u6,hu.u7,hu.u8,hu.u9,hu.u10,hu.u11,hu.u12,hu.u13,hu.u14,hu.u15,hu.u16,hu.u17,hu.u18,ht.1];unfold zp;clear hu
 conv=>arg 2;whnf
 have hrow:=hs.rel.imp;cases himp:s.imp with
 |none=>
  rw[himp] at hrow;obtain⟨hv,-,-⟩:=hrow;rw[hv];have HV:=Z hv;have HI:=Z himp;clear hv himp hs ht hsm;go_wp2_with fail;refine Met.intro (hJ _ _ ?_);rw[gN HI.out];exact⟨A,P,V,N,X,HS,Fr18.mk rfl rfl ⟨⟨rfl,rfl,HV.symm,rfl,rfl,rfl,rfl,rfl,rfl,rfl,rfl,rfl,rfl,rfl⟩,rfl,HT.2⟩⟩
 |some l=>
  rw[himp] at hrow;obtain⟨⟨g,c,hv⟩,hn,ss,hX,hss⟩:=hrow;have HN:=Z hn;have HI:=Z himp;have HX:=Z hX;have hm2:N 2≤1000000:=by
   have:=hs.rel.errs.1;have:=hsm.errs;omega
  obtain⟨hcf,hcg,hcx,hlb⟩:=hs.cells;have HLB:=Z hlb;have hm0:N 0≤1000000:=by have:=(hsm.imp l himp).1;omega
  clear himp hX hlb hsm;by_cases h1:x.k=65537
  ·obtain⟨t,hxt⟩:∃t,x.t=some t:=by
    cases e:x.t with
    |none=>exact absurd e (htk (.inl h1))
    |some t=>exact⟨t,rfl⟩
   have ht2:=ht.2;rw[hxt] at ht2;obtain⟨tt,hut,htt⟩:=ht2;rw[hv,h1,hut];have HV:=Z hv;have H1:=Z h1;have HXT:=Z hxt;have HUT:=Z hut;have HTT:=Z htt;have has:=zu tt;have hown:=(hs.keep ((Fr.refl w).alloc (.cells #[.string tt] 9))).sb.rows 0 (by decide);rw[hv] at hown;have hbb:=hs.bbl;have HOWN:=Z hown;clear hs ht hut hown hv h1 hxt htt hn hcf hcg hcx;go_wp2_with (refine appV 89 9 _ 1 16 underlying89 jn rfl (by decide) (by decide) (B:=C.bb+1) (xs:=X 0) (m:=N 0) HOWN.out (by simp;omega) hm0 (cs:=#[.string tt]) rfl (by simp[Value.oneCell']) (ql w _) (by rfl) (by rfl) ?_;intro v' w' hv hr f hos;have HV':=Z hv;have HR':=Z hr;have HF':=Z f;have HO':=Z hos;clear hv hr f hos);have hF:=HF'.out;have hO:=HO'.out;rw[←HV.out] at hF hO;have h2:=(HS.keep ((Fr.refl w).alloc _)).impMore HI (t:=tt) HV' HR' hF hO;refine Met.intro (hJ _ _ ?_);rw[jo HI.out H1.out,show txt x=tt.toList from by unfold txt;rw[HXT.out,HTT.out];rfl];exact⟨_,P,_,_,_,h2,Fr18.mk rfl rfl ⟨⟨rfl,rfl,rfl,rfl,rfl,rfl,rfl,rfl,rfl,rfl,rfl,rfl,rfl,rfl⟩,by rw[H1.out];rfl,by rw[HXT.out];exact⟨tt,rfl,HTT.out⟩⟩⟩
  have H1:=Z h1;by_cases h3:x.k=65539
  ·obtain⟨t,hxt⟩:∃t,x.t=some t:=by
    cases e:x.t with
    |none=>exact absurd e (htk (.inr h3))
    |some t=>exact⟨t,rfl⟩
   have ht2:=ht.2;rw[hxt] at ht2;obtain⟨tt,hut,htt⟩:=ht2;have HTX:Hid (txt x=tt.toList):=Z (by unfold txt;rw[hxt,htt];rfl);have has:=zu tt;rw[h3,hut];have H3:=Z h3;have HUT:=Z hut;clear ht hut hxt htt h1 h3;by_cases hl:l=[]
   ·subst hl;have hn0:N 0=0:=hn;rw[hn0] at hv;rw[hv];have HV:=Z hv;clear hv hn hn0;by_cases hp:tt.toList=bX
    ·have ep:tt=⟨#[112,117,98,108,105,99]⟩:=dw (by rw[hp,qi];rfl);subst ep;have HP:=Z hp;clear hp hs hcf hcg hcx;go_wp2_with fail;refine Met.intro (hJ _ _ ?_);rw[fw HI.out H3.out (.inl (HTX.trans HP.out)),HTX.out,HP.out];exact⟨A,P,V,N,X,HS.flags _ _,Fr18.mk rfl rfl ⟨⟨rfl,rfl,HV.symm,rfl,rfl,rfl,rfl,rfl,rfl,rfl,rfl,rfl,rfl,rfl⟩,by rw[H3.out];rfl,HUT.out▸HT.2⟩⟩
    ·by_cases hw:tt.toList=dQ
     ·have ep:tt=⟨#[119,101,97,107]⟩:=dw (by rw[hw,qi];rfl);subst ep;have HW:=Z hw;clear hw hp hs hcf hcg hcx;go_wp2_with fail;refine Met.intro (hJ _ _ ?_);rw[fw HI.out H3.out (.inr (HTX.trans HW.out)),HTX.out,HW.out];exact⟨A,P,V,N,X,HS.flags _ _,Fr18.mk rfl rfl ⟨⟨rfl,rfl,HV.symm,rfl,rfl,rfl,rfl,rfl,rfl,rfl,rfl,rfl,rfl,rfl⟩,by rw[H3.out];rfl,HUT.out▸HT.2⟩⟩
     ·have HNW:Hid (¬ (txt x=bX∨txt x=dQ)):=Z (by rw[HTX.out];rintro(e|e)<;>contradiction);have hp':(tt.toList== [112,117,98,108,105,99])=false:=beq_eq_false_iff_ne.2 hp;have hw':(tt.toList== [119,101,97,107])=false:=beq_eq_false_iff_ne.2 hw;clear hp hw hs;go_wp2_with first
       |(go_at_call 32;refine(bF fn b.fb b.gb b.xb b.lx rr _ x.pv 1000000 hpv (by decide) _ hcf hcg hcx HLB).mono ?_;rintro e w1 ⟨rfl,k1⟩;have K1:=Z k1;clear k1)
       |(go_at_call 36;refine(b9 65539 _).mono ?_;rintro e w2 ⟨⟨ds,rfl⟩,rfl⟩)
       |(go_at_call 35;refine(be (bS fn (x.pv.ln+1) (x.pv.cl+1)) _ _ _).mono ?_;rintro e w3 ⟨k,rfl,hk,hb,kk⟩;have H5:=Z (HS.err5 (K1.alloc _) hk hb kk);clear hk hb kk)
       |(refine appV 71 75 _ 1 16 underlying71 dm rfl (by decide) (by decide) (B:=C.bb+1) (xs:=X 2) (m:=N 2) (H5.1.sb.rows 2 (by decide)) H5.1.bbl hm2 (cs:=#[ce k]) rfl (by simp[ce,Value.oneCell']) (ql w3 _) (by rfl) (by rfl) ?_;intro v6 w6 hv6 hr6 f6 ho6;have H6:=Z (H5.1.errMore (e:=fu x.pv) (.inr rfl) H5.2 hr6 f6 ho6);clear hv6 hr6 f6 ho6)
      obtain⟨A3,h3⟩:=H6.impNone;refine Met.intro (hJ _ _ ?_);rw[gw HI.out H1.out fun _=>HNW.out];exact⟨A3,_,_,_,_,h3,Fr18.mk rfl rfl ⟨⟨rfl,rfl,rfl,rfl,rfl,rfl,rfl,rfl,rfl,rfl,rfl,rfl,rfl,rfl⟩,(by rw[H3.out];rfl),HUT.out▸HT.2⟩⟩
   ·have HL:=Z hl;have hn0:N 0≠0:=by
     rw[hn];exact fun e=>hl (List.eq_nil_of_length_eq_zero e)
    have q0:((N 0:Int) ==0)=false:=bf (by omega);have q1:0<N 0:=by omega
    have q2:(0:Int) < (N 0:Int):=by omega
    have HK59:Hid (¬x.k=59):=Z (by rw[H3.out];decide);rw[hv];have HV:=Z hv;clear hv hn hn0 hl hs;go_upto_region 31 with first
     |(go_at_call 32;refine(bF fn b.fb b.gb b.xb b.lx rr _ x.pv 1000000 hpv (by decide) _ hcf hcg hcx HLB).mono ?_;rintro e w1 ⟨rfl,k1⟩;have K1:=Z k1;clear k1)
     |(go_at_call 36;refine(b9 65539 _).mono ?_;rintro e w2 ⟨⟨ds,rfl⟩,rfl⟩)
     |(go_at_call 35;refine(be (bS fn (x.pv.ln+1) (x.pv.cl+1)) _ _ _).mono ?_;rintro e w3 ⟨k,rfl,hk,hb,kk⟩;have H5:=Z (HS.err5 (K1.alloc _) hk hb kk);clear hk hb kk)
     |(refine appV 71 75 _ 1 16 underlying71 dm rfl (by decide) (by decide) (B:=C.bb+1) (xs:=X 2) (m:=N 2) (H5.1.sb.rows 2 (by decide)) H5.1.bbl hm2 (cs:=#[ce k]) rfl (by simp[ce,Value.oneCell']) (ql w3 _) (by rfl) (by rfl) ?_;intro v6 w6 hv6 hr6 f6 ho6;have H6:=Z (H5.1.errMore (e:=fu x.pv) (.inr rfl) H5.2 hr6 f6 ho6);clear hv6 hr6 f6 ho6)
    refine lT C rr T R p x.pv fn b {s with errs:=s.errs++ [fu x.pv]} x _ _ _ _ _ _ _ _ l H6 HI ⟨HSM.imp,HSM.imps⟩ (Fr18.mk rfl rfl ⟨⟨rfl,rfl,HV.symm,rfl,rfl,rfl,rfl,rfl,rfl,rfl,rfl,rfl,rfl,rfl⟩,(by rw[H3.out];rfl),HUT.out▸HT.2⟩) ?_;rintro a' wx ⟨A2,P2,V2,N2,X2,hs2,u2,⟨hu2,ht2⟩,rfl⟩;obtain⟨A3,h3⟩:=hs2.impNone;have H3:=Z h3;have HU2:=Z hu2;have HT2:=Z ht2;clear hs2 h3 hu2 ht2;unfold gP;go_wp2_with fail;refine Met.intro (hJ _ _ ?_);rw[eW HI.out H1.out HL.out,if_neg HK59.out];exact⟨A3,P2,_,_,_,H3,Fr18.mk rfl rfl ⟨⟨HU2.u4,HU2.u6,rfl,HU2.u8,HU2.u9,HU2.u10,HU2.u11,HU2.u12,HU2.u13,HU2.u14,HU2.u15,HU2.u16,HU2.u17,HU2.u18⟩,HT2⟩⟩
  have H3:=Z h3;have q37:(x.k==65537)=false:=beq_eq_false_iff_ne.2 h1;have q39:(x.k==65539)=false:=beq_eq_false_iff_ne.2 h3;clear h1 h3 ht;by_cases hl:l=[]
  ·subst hl;have hn0:N 0=0:=hn;rw[hn0] at hv;rw[hv];have HV:=Z hv;clear hv hn hn0 hs;go_wp2_with first
    |(go_at_call 32;refine(bF fn b.fb b.gb b.xb b.lx rr _ x.pv 1000000 hpv (by decide) _ hcf hcg hcx HLB).mono ?_;rintro e w1 ⟨rfl,k1⟩;have K1:=Z k1;clear k1)
    |(go_at_call 36;refine(b9 x.k _).mono ?_;rintro e w2 ⟨⟨ds,rfl⟩,rfl⟩)
    |(go_at_call 35;refine(be (bS fn (x.pv.ln+1) (x.pv.cl+1)) _ _ _).mono ?_;rintro e w3 ⟨k,rfl,hk,hb,kk⟩;have H5:=Z (HS.err5 (K1.alloc _) hk hb kk);clear hk hb kk)
    |(refine appV 71 75 _ 1 16 underlying71 dm rfl (by decide) (by decide) (B:=C.bb+1) (xs:=X 2) (m:=N 2) (H5.1.sb.rows 2 (by decide)) H5.1.bbl hm2 (cs:=#[ce k]) rfl (by simp[ce,Value.oneCell']) (ql w3 _) (by rfl) (by rfl) ?_;intro v6 w6 hv6 hr6 f6 ho6;have H6:=Z (H5.1.errMore (e:=fu x.pv) (.inr rfl) H5.2 hr6 f6 ho6);clear hv6 hr6 f6 ho6)
   obtain⟨A3,h3⟩:=H6.impNone;refine Met.intro (hJ _ _ ?_);rw[gw HI.out H1.out (fun e=>absurd e H3.out)];exact⟨A3,_,_,_,_,h3,Fr18.mk rfl rfl ⟨⟨rfl,rfl,rfl,rfl,rfl,rfl,rfl,rfl,rfl,rfl,rfl,rfl,rfl,rfl⟩,rfl,HT.2⟩⟩
  ·have HL:=Z hl;have hn0:N 0≠0:=by
    rw[hn];exact fun e=>hl (List.eq_nil_of_length_eq_zero e)
   have q0:((N 0:Int) ==0)=false:=bf (by omega);have q1:0<N 0:=by omega
   have q2:(0:Int) < (N 0:Int):=by omega
   rw[hv];have HV:=Z hv;clear hv hn hn0 hl hs;by_cases h59:x.k=59
   ·have HK59:=Z h59;have q59:(x.k !=59)=false:=by rw[h59];rfl
    clear h59 hcf hcg hcx;go_upto_region 31 with fail;refine lT C rr T R p x.pv fn b s x _ _ _ _ _ _ _ _ l HS HI ⟨HSM.imp,HSM.imps⟩ (Fr18.mk rfl rfl ⟨⟨rfl,rfl,HV.symm,rfl,rfl,rfl,rfl,rfl,rfl,rfl,rfl,rfl,rfl,rfl⟩,rfl,HT.2⟩) ?_;rintro a' wx ⟨A2,P2,V2,N2,X2,hs2,u2,⟨hu2,ht2⟩,rfl⟩;obtain⟨A3,h3⟩:=hs2.impNone;have H3:=Z h3;have HU2:=Z hu2;have HT2:=Z ht2;clear hs2 h3 hu2 ht2;unfold gP;go_wp2_with fail;refine Met.intro (hJ _ _ ?_);rw[eW HI.out H1.out HL.out,if_pos HK59.out];exact⟨A3,P2,_,_,_,H3,Fr18.mk rfl rfl ⟨⟨HU2.u4,HU2.u6,rfl,HU2.u8,HU2.u9,HU2.u10,HU2.u11,HU2.u12,HU2.u13,HU2.u14,HU2.u15,HU2.u16,HU2.u17,HU2.u18⟩,HT2⟩⟩
   ·have HK59:=Z h59;have q59:(x.k !=59)=true:=by simp[h59]
    clear h59;go_upto_region 31 with first
     |(go_at_call 32;refine(bF fn b.fb b.gb b.xb b.lx rr _ x.pv 1000000 hpv (by decide) _ hcf hcg hcx HLB).mono ?_;rintro e w1 ⟨rfl,k1⟩;have K1:=Z k1;clear k1)
     |(go_at_call 36;refine(b9 x.k _).mono ?_;rintro e w2 ⟨⟨ds,rfl⟩,rfl⟩)
     |(go_at_call 35;refine(be (bS fn (x.pv.ln+1) (x.pv.cl+1)) _ _ _).mono ?_;rintro e w3 ⟨k,rfl,hk,hb,kk⟩;have H5:=Z (HS.err5 (K1.alloc _) hk hb kk);clear hk hb kk)
     |(refine appV 71 75 _ 1 16 underlying71 dm rfl (by decide) (by decide) (B:=C.bb+1) (xs:=X 2) (m:=N 2) (H5.1.sb.rows 2 (by decide)) H5.1.bbl hm2 (cs:=#[ce k]) rfl (by simp[ce,Value.oneCell']) (ql w3 _) (by rfl) (by rfl) ?_;intro v6 w6 hv6 hr6 f6 ho6;have H6:=Z (H5.1.errMore (e:=fu x.pv) (.inr rfl) H5.2 hr6 f6 ho6);clear hv6 hr6 f6 ho6)
    refine lT C rr T R p x.pv fn b {s with errs:=s.errs++ [fu x.pv]} x _ _ _ _ _ _ _ _ l H6 HI ⟨HSM.imp,HSM.imps⟩ (Fr18.mk rfl rfl ⟨⟨rfl,rfl,HV.symm,rfl,rfl,rfl,rfl,rfl,rfl,rfl,rfl,rfl,rfl,rfl⟩,rfl,HT.2⟩) ?_;rintro a' wx ⟨A2,P2,V2,N2,X2,hs2,u2,⟨hu2,ht2⟩,rfl⟩;obtain⟨A3,h3⟩:=hs2.impNone;have H3:=Z h3;have HU2:=Z hu2;have HT2:=Z ht2;clear hs2 h3 hu2 ht2;unfold gP;go_wp2_with fail;refine Met.intro (hJ _ _ ?_);rw[eW HI.out H1.out HL.out,if_neg HK59.out];exact⟨A3,P2,_,_,_,H3,Fr18.mk rfl rfl ⟨⟨HU2.u4,HU2.u6,rfl,HU2.u8,HU2.u9,HU2.u10,HU2.u11,HU2.u12,HU2.u13,HU2.u14,HU2.u15,HU2.u16,HU2.u17,HU2.u18⟩,HT2⟩⟩
end Go.Proofs.YtnclklfhjbkjhaaGreatDoor
