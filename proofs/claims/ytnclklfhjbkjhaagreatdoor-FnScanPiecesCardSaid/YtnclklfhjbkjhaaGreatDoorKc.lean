/- Part of the proof: S0 K9 K10 K11 K13. -/
import Derived.Test.YtnclklfhjbkjhaaGreatDoorKa
import Derived.Test.YtnclklfhjbkjhaaGreatDoorGd
import Derived.Ground.NamesProg
import Derived.Ground.MzProg
import Derived.Shelf.Bytes.BufferK
import Derived.Shelf.Bytes.String
import Derived.Shelf.Wr.WriteRune
set_option maxRecDepth 1000000
set_option maxHeartbeats 40000000
set_option linter.unusedSimpArgs false
namespace Go.Proofs
open Go.Shelf
def Tryz.lays179_ren:Go.Shelf.Ren:=⟨fun|179=>98|251=>128|252=>129|181=>146|184=>147|290=>148|324=>162|n=>n,fun|130=>190|5=>5|75=>63|0=>0|93=>162|91=>160|3=>3|131=>191|4=>4|37=>117|20=>20|80=>82|9=>9|n=>n,fun|14=>9|n=>n⟩
theorem Tryz.lays179:Go.Proofs.LaysM.n179 Tryz.prog Tryz.lays179_ren:={
 mixed:=by kernel_rfl
 f179:=Tryz.func98.trans (congrArg some (by kernel_rfl))
 f181:=Tryz.func146.trans (congrArg some (by kernel_rfl))
 f184:=Tryz.func147.trans (congrArg some (by kernel_rfl))
 f251:=Tryz.func128.trans (congrArg some (by kernel_rfl))
 f252:=Tryz.func129.trans (congrArg some (by kernel_rfl))
 f290:=Tryz.func148.trans (congrArg some (by kernel_rfl))
 f324:=Tryz.func162.trans (congrArg some (by kernel_rfl))
 t0:=Tryz.underlying0
 a0:=Tryz.isAgg0
 z0:=Tryz.sizeOf0
 v0:=Tryz.zeroValue0
 t3:=Tryz.underlying3
 a3:=Tryz.isAgg3
 z3:=Tryz.sizeOf3
 v3:=Tryz.zeroValue3
 t4:=Tryz.underlying4
 a4:=Tryz.isAgg4
 z4:=Tryz.sizeOf4
 v4:=Tryz.zeroValue4
 t5:=Tryz.underlying5
 a5:=Tryz.isAgg5
 z5:=Tryz.sizeOf5
 v5:=Tryz.zeroValue5
 t20:=Tryz.underlying20
 a20:=Tryz.isAgg20
 z20:=Tryz.sizeOf20
 v20:=Tryz.zeroValue20
 t37:=Tryz.underlying117
 a37:=Tryz.isAgg117
 z37:=Tryz.sizeOf117
 v37:=Tryz.zeroValue117
 t75:=Tryz.underlying63
 a75:=Tryz.isAgg63
 z75:=Tryz.sizeOf63
 v75:=Tryz.zeroValue63
 t91:=Tryz.underlying160
 a91:=Tryz.isAgg160
 z91:=Tryz.sizeOf160
 v91:=Tryz.zeroValue160
 t93:=Tryz.underlying162
 a93:=Tryz.isAgg162
 z93:=Tryz.sizeOf162
 v93:=Tryz.zeroValue162
 t130:=Tryz.underlying190
 a130:=Tryz.isAgg190
 z130:=Tryz.sizeOf190
 v130:=Tryz.zeroValue190
 t131:=Tryz.underlying191
 a131:=Tryz.isAgg191
 z131:=Tryz.sizeOf191
 v131:=Tryz.zeroValue191
 g14:=by kernel_rfl
 t9:=Tryz.underlying9
 a9:=Tryz.isAgg9
 z9:=Tryz.sizeOf9
 v9:=Tryz.zeroValue9
 t80:=Tryz.underlying82
 a80:=Tryz.isAgg82
 z80:=Tryz.sizeOf82
 v80:=Tryz.zeroValue82
 i0:=by kernel_rfl
 i3:=by kernel_rfl
 i4:=by kernel_rfl
 i5:=by kernel_rfl
 i9:=by kernel_rfl
 i20:=by kernel_rfl
 i37:=by kernel_rfl
 i75:=by kernel_rfl
 i80:=by kernel_rfl
 i91:=by kernel_rfl
 i93:=by kernel_rfl
 i130:=by kernel_rfl
 i131:=by kernel_rfl
 m14:=by kernel_rfl}
def Tryz.lays178_ren:Go.Shelf.Ren:=⟨fun|178=>101|251=>128|252=>129|181=>146|184=>147|290=>148|324=>162|n=>n,fun|130=>190|9=>9|3=>3|75=>63|0=>0|93=>162|91=>160|131=>191|4=>4|37=>117|20=>20|80=>82|5=>5|n=>n,fun|14=>9|n=>n⟩
theorem Tryz.lays178:Go.Proofs.LaysM.n178 Tryz.prog Tryz.lays178_ren:={
 mixed:=by kernel_rfl
 f178:=Tryz.func101.trans (congrArg some (by kernel_rfl))
 f181:=Tryz.func146.trans (congrArg some (by kernel_rfl))
 f184:=Tryz.func147.trans (congrArg some (by kernel_rfl))
 f251:=Tryz.func128.trans (congrArg some (by kernel_rfl))
 f252:=Tryz.func129.trans (congrArg some (by kernel_rfl))
 f290:=Tryz.func148.trans (congrArg some (by kernel_rfl))
 f324:=Tryz.func162.trans (congrArg some (by kernel_rfl))
 t0:=Tryz.underlying0
 a0:=Tryz.isAgg0
 z0:=Tryz.sizeOf0
 v0:=Tryz.zeroValue0
 t3:=Tryz.underlying3
 a3:=Tryz.isAgg3
 z3:=Tryz.sizeOf3
 v3:=Tryz.zeroValue3
 t4:=Tryz.underlying4
 a4:=Tryz.isAgg4
 z4:=Tryz.sizeOf4
 v4:=Tryz.zeroValue4
 t9:=Tryz.underlying9
 a9:=Tryz.isAgg9
 z9:=Tryz.sizeOf9
 v9:=Tryz.zeroValue9
 t20:=Tryz.underlying20
 a20:=Tryz.isAgg20
 z20:=Tryz.sizeOf20
 v20:=Tryz.zeroValue20
 t37:=Tryz.underlying117
 a37:=Tryz.isAgg117
 z37:=Tryz.sizeOf117
 v37:=Tryz.zeroValue117
 t75:=Tryz.underlying63
 a75:=Tryz.isAgg63
 z75:=Tryz.sizeOf63
 v75:=Tryz.zeroValue63
 t91:=Tryz.underlying160
 a91:=Tryz.isAgg160
 z91:=Tryz.sizeOf160
 v91:=Tryz.zeroValue160
 t93:=Tryz.underlying162
 a93:=Tryz.isAgg162
 z93:=Tryz.sizeOf162
 v93:=Tryz.zeroValue162
 t130:=Tryz.underlying190
 a130:=Tryz.isAgg190
 z130:=Tryz.sizeOf190
 v130:=Tryz.zeroValue190
 t131:=Tryz.underlying191
 a131:=Tryz.isAgg191
 z131:=Tryz.sizeOf191
 v131:=Tryz.zeroValue191
 g14:=by kernel_rfl
 t5:=Tryz.underlying5
 a5:=Tryz.isAgg5
 z5:=Tryz.sizeOf5
 v5:=Tryz.zeroValue5
 t80:=Tryz.underlying82
 a80:=Tryz.isAgg82
 z80:=Tryz.sizeOf82
 v80:=Tryz.zeroValue82
 i0:=by kernel_rfl
 i3:=by kernel_rfl
 i4:=by kernel_rfl
 i5:=by kernel_rfl
 i9:=by kernel_rfl
 i20:=by kernel_rfl
 i37:=by kernel_rfl
 i75:=by kernel_rfl
 i80:=by kernel_rfl
 i91:=by kernel_rfl
 i93:=by kernel_rfl
 i130:=by kernel_rfl
 i131:=by kernel_rfl
 m14:=by kernel_rfl}
def Tryz.lays182_ren:Go.Shelf.Ren:=⟨fun|182=>102|n=>n,fun|130=>190|9=>9|4=>4|0=>0|93=>162|37=>117|3=>3|91=>160|5=>5|n=>n,fun|n=>n⟩
theorem Tryz.lays182:Go.Proofs.LaysM.n182 Tryz.prog Tryz.lays182_ren:={
 mixed:=by kernel_rfl
 f182:=Tryz.func102.trans (congrArg some (by kernel_rfl))
 t0:=Tryz.underlying0
 a0:=Tryz.isAgg0
 z0:=Tryz.sizeOf0
 v0:=Tryz.zeroValue0
 t3:=Tryz.underlying3
 a3:=Tryz.isAgg3
 z3:=Tryz.sizeOf3
 v3:=Tryz.zeroValue3
 t4:=Tryz.underlying4
 a4:=Tryz.isAgg4
 z4:=Tryz.sizeOf4
 v4:=Tryz.zeroValue4
 t9:=Tryz.underlying9
 a9:=Tryz.isAgg9
 z9:=Tryz.sizeOf9
 v9:=Tryz.zeroValue9
 t37:=Tryz.underlying117
 a37:=Tryz.isAgg117
 z37:=Tryz.sizeOf117
 v37:=Tryz.zeroValue117
 t93:=Tryz.underlying162
 a93:=Tryz.isAgg162
 z93:=Tryz.sizeOf162
 v93:=Tryz.zeroValue162
 t130:=Tryz.underlying190
 a130:=Tryz.isAgg190
 z130:=Tryz.sizeOf190
 v130:=Tryz.zeroValue190
 t5:=Tryz.underlying5
 a5:=Tryz.isAgg5
 z5:=Tryz.sizeOf5
 v5:=Tryz.zeroValue5
 t91:=Tryz.underlying160
 a91:=Tryz.isAgg160
 z91:=Tryz.sizeOf160
 v91:=Tryz.zeroValue160
 i0:=by kernel_rfl
 i3:=by kernel_rfl
 i4:=by kernel_rfl
 i5:=by kernel_rfl
 i9:=by kernel_rfl
 i37:=by kernel_rfl
 i91:=by kernel_rfl
 i93:=by kernel_rfl
 i130:=by kernel_rfl}
def Tryz.laysWr5_ren:Go.Shelf.Ren:=⟨fun|5=>99|7=>98|8=>128|9=>129|10=>130|11=>146|12=>147|13=>148|14=>149|15=>162|n=>n,fun|34=>190|21=>21|3=>3|28=>63|35=>194|4=>4|5=>5|0=>0|26=>162|24=>160|37=>191|22=>117|43=>212|20=>20|31=>82|9=>9|n=>n,fun|0=>9|n=>n⟩
theorem Tryz.laysWr5:Go.Proofs.LaysWr.n5 Tryz.prog Tryz.laysWr5_ren:={
 mixed:=by kernel_rfl
 f5:=Tryz.func99.trans (congrArg some (by kernel_rfl))
 f7:=Tryz.func98.trans (congrArg some (by kernel_rfl))
 f8:=Tryz.func128.trans (congrArg some (by kernel_rfl))
 f9:=Tryz.func129.trans (congrArg some (by kernel_rfl))
 f10:=Tryz.func130.trans (congrArg some (by kernel_rfl))
 f11:=Tryz.func146.trans (congrArg some (by kernel_rfl))
 f12:=Tryz.func147.trans (congrArg some (by kernel_rfl))
 f13:=Tryz.func148.trans (congrArg some (by kernel_rfl))
 f14:=Tryz.func149.trans (congrArg some (by kernel_rfl))
 f15:=Tryz.func162.trans (congrArg some (by kernel_rfl))
 t0:=Tryz.underlying0
 a0:=Tryz.isAgg0
 z0:=Tryz.sizeOf0
 v0:=Tryz.zeroValue0
 i0:=by kernel_rfl
 t3:=Tryz.underlying3
 a3:=Tryz.isAgg3
 z3:=Tryz.sizeOf3
 v3:=Tryz.zeroValue3
 i3:=by kernel_rfl
 t4:=Tryz.underlying4
 a4:=Tryz.isAgg4
 z4:=Tryz.sizeOf4
 v4:=Tryz.zeroValue4
 i4:=by kernel_rfl
 t5:=Tryz.underlying5
 a5:=Tryz.isAgg5
 z5:=Tryz.sizeOf5
 v5:=Tryz.zeroValue5
 i5:=by kernel_rfl
 t9:=Tryz.underlying9
 a9:=Tryz.isAgg9
 z9:=Tryz.sizeOf9
 v9:=Tryz.zeroValue9
 i9:=by kernel_rfl
 t20:=Tryz.underlying20
 a20:=Tryz.isAgg20
 z20:=Tryz.sizeOf20
 v20:=Tryz.zeroValue20
 i20:=by kernel_rfl
 t21:=Tryz.underlying21
 a21:=Tryz.isAgg21
 z21:=Tryz.sizeOf21
 v21:=Tryz.zeroValue21
 i21:=by kernel_rfl
 t22:=Tryz.underlying117
 a22:=Tryz.isAgg117
 z22:=Tryz.sizeOf117
 v22:=Tryz.zeroValue117
 i22:=by kernel_rfl
 t24:=Tryz.underlying160
 a24:=Tryz.isAgg160
 z24:=Tryz.sizeOf160
 v24:=Tryz.zeroValue160
 i24:=by kernel_rfl
 t26:=Tryz.underlying162
 a26:=Tryz.isAgg162
 z26:=Tryz.sizeOf162
 v26:=Tryz.zeroValue162
 i26:=by kernel_rfl
 t28:=Tryz.underlying63
 a28:=Tryz.isAgg63
 z28:=Tryz.sizeOf63
 v28:=Tryz.zeroValue63
 i28:=by kernel_rfl
 t31:=Tryz.underlying82
 a31:=Tryz.isAgg82
 z31:=Tryz.sizeOf82
 v31:=Tryz.zeroValue82
 i31:=by kernel_rfl
 t34:=Tryz.underlying190
 a34:=Tryz.isAgg190
 z34:=Tryz.sizeOf190
 v34:=Tryz.zeroValue190
 i34:=by kernel_rfl
 t35:=Tryz.underlying194
 a35:=Tryz.isAgg194
 z35:=Tryz.sizeOf194
 v35:=Tryz.zeroValue194
 i35:=by kernel_rfl
 t37:=Tryz.underlying191
 a37:=Tryz.isAgg191
 z37:=Tryz.sizeOf191
 v37:=Tryz.zeroValue191
 i37:=by kernel_rfl
 t43:=Tryz.underlying212
 a43:=Tryz.isAgg212
 z43:=Tryz.sizeOf212
 v43:=Tryz.zeroValue212
 i43:=by kernel_rfl
 g0:=by kernel_rfl
 m0:=by kernel_rfl}
end Go.Proofs
namespace Go.Proofs.YtnclklfhjbkjhaaGreatDoor
open Tryz
open Go.RowKit Go.Lib
def oW(B b:Nat)(w:World)(k:Nat):Prop:=k=b∨(B≤k∧∃cs fz,w.heap[k]? =some (.cells cs 5 fz))
structure BufSt(C:RC)(lx rr:Nat)(A:Nat→Prop)(ok:Bool)(T d:Nat)(R:List Int)(p pv:Ps)(B b:Nat)(l:List UInt8)(w:World):Prop where
 st:LxSt C lx rr A ok T d R p pv w
 buf:Lib.IsBuffer 162 5 B b (Lib.byteCells l) w
 low:C.bb<B∧C.kb<B∧C.pb<B∧rr<B∧lx<B
 lowA:∀k,A k→k≠b∧∀cs fz,B≤k→w.heap[k]? ≠some (.cells cs 5 fz)
theorem tu{T e:TypeId}{B b:Nat}{bs:List Value}{w w':World}{S:Nat→Prop}(h:Lib.IsBuffer T e B b bs w)(f:Fr S w w')(hb:¬S b)(hS:∀k cs,B≤k→w.heap[k]? =some (.cells cs e (0,0))→¬S k):Lib.IsBuffer T e B b bs w':=by
 obtain⟨hB,v,lr,h1,h2,h3⟩:=h;refine⟨hB,v,lr,f.blk hb h1,?_,h3⟩;refine⟨h2.1,?_⟩;rcases h2.2 with h|⟨g,cap,cur,k1,k2,k3,k4⟩
 ·exact .inl h
 ·exact .inr ⟨g,cap,cur,k1,k2,f.blk (hS g _ k2 k3) k3,k4⟩
theorem pM{T e:TypeId}{B b:Nat}{bs:List Value}{w:World}(h:Lib.IsBuffer T e B b bs w):∃cs,w.heap[b]? =some (.cells cs T (0,0)):=by
 obtain⟨hB,v,lr,h1,h2,h3⟩:=h;exact⟨_,h1⟩
theorem RuSt.plus{C:RC}{rr:Nat}{A X:Nat→Prop}{ok:Bool}{R:List Int}{w:World}(h:RuSt C rr A ok R w)(hX:∀k,X k→C.bb<k∧k≠C.kb∧k≠C.pb∧k≠rr∧∃cs t fz,w.heap[k]? =some (.cells cs t fz)∧t≠21):RuSt C rr (fun k=>A k∨X k) ok R w:=by
 obtain⟨U,Bs,uv,ev,h1,h2,h3,h4,h5⟩:=h.st;refine⟨fun k e=>?_,h.hr,U,Bs,uv,ev,h1,h2,fun g hg=>⟨fun e=>?_,(h3 g hg).2⟩,h4,h5⟩
 ·rcases e with e|e
  ·exact h.hA k e
  ·obtain⟨g1,g2,g3,g4,cs,t,fz,g5,-⟩:=hX k e;have g6:=h.hr.1;exact⟨by omega,g2,g3,g4,af g5⟩
 ·rcases e with e|e
  ·exact(h3 g hg).1 e
  ·obtain⟨-,-,-,-,cs,t,fz,g5,g6⟩:=hX g e;rcases h2.2 with⟨k,-⟩|⟨g',cap,cur,k1,k2,k3,k4⟩
   ·rw[k] at hg;simp[Value.ownBlock] at hg
   ·rw[k1] at hg;have eg:g'=g:=by simpa[Value.ownBlock] using hg
    subst eg;rw[k3] at g5;simp only[Option.some.injEq,Obj.cells.injEq] at g5;exact g6 g5.2.1.symm
theorem BufSt.plus{C:RC}{lx rr T d B b:Nat}{A:Nat→Prop}{ok:Bool}{R:List Int}{p pv:Ps}{l:List UInt8}{w:World}(h:BufSt C lx rr A ok T d R p pv B b l w):LxSt C lx rr (fun k=>A k∨oW B b w k) ok T d R p pv w:=by
 obtain⟨l1,l2,l3,l4,l5⟩:=h.low;have hB:=h.buf.1;refine⟨.inl h.st.la,h.st.ru.plus fun k e=>?_,h.st.lb,h.st.ps,h.st.hT⟩;rcases e with e|⟨e,cs,fz,hk⟩
 ·obtain⟨cs,hk⟩:=pM h.buf;subst e;exact⟨by omega,by omega,by omega,by omega,cs,_,_,hk,by decide⟩
 ·exact⟨by omega,by omega,by omega,by omega,cs,_,_,hk,by decide⟩
theorem BufSt.turn{C:RC}{lx rr T d T' d' B b:Nat}{A:Nat→Prop}{ok ok':Bool}{R R':List Int}{p pv p':Ps}{l:List UInt8}{w w':World}(h:BufSt C lx rr A ok T d R p pv B b l w)(f:Fr (LxF C lx fun k=>A k∨oW B b w k) w w')(h':LxSt C lx rr (fun k=>A k∨oW B b w k) ok' T' d' R' p' pv w'):BufSt C lx rr A ok' T' d' R' p' pv B b l w'∧Fr (LxF C lx A) w w':=by
 obtain⟨l1,l2,l3,l4,l5⟩:=h.low;have hB:=h.buf.1;refine⟨⟨h'.less (fun _ e=> .inl e) h.st.la,tu h.buf f ?_ ?_,h.low,fun k e=>⟨(h.lowA k e).1,fun cs fz hk hb=>?_⟩⟩,f.mono fun k _ e=>e.imp (fun e=>⟨e.1,fun a=>e.2 (.inl a)⟩) id⟩
 ·intro e;rcases e with e|e
  ·exact e.2 (.inr (.inl rfl))
  ·omega
 ·intro k cs hk hb e;rcases e with e|e
  ·exact e.2 (.inr (.inr ⟨hk,cs,_,hb⟩))
  ·omega
 ·have hlt:=(h.st.ru.hA k e).2.2.2.2;have hkl:k≠lx:=by omega
  have:w'.heap[k]? =w.heap[k]? :=f.block k hlt fun e'=>by
   rcases e' with e'|e'
   ·exact e'.2 (.inl e)
   ·exact hkl e'
  rw[this] at hb;exact(h.lowA k e).2 cs fz hk hb
def yd(C:RC)(lx rr:Nat)(A:Nat→Prop)(T d:Nat)(R:List Int)(p pv:Ps)(B b:Nat)(l:List UInt8)(w:World)(e:Ending)(w':World):Prop:=
 Fr (LxF C lx A) w w'∧((R=[]∧BufSt C lx rr A false T d [] p pv B b l w'∧∃bb,e= .returned (.tuple #[.int .i32 0,.iface 172 (.pointer (some bb))]))∨
  ∃c R',R=c::R'∧BufSt C lx rr A true T (d+1) R' p pv B b l w'∧e= .returned (.tuple #[.int .i32 c,.nilIface]))
theorem dG{C:RC}{lx rr T d B b:Nat}{A:Nat→Prop}{ok:Bool}{R:List Int}{p pv:Ps}{l:List UInt8}{w:World}(h:BufSt C lx rr A ok T d R p pv B b l w):
  Calls prog 62 #[.pointer (some ⟨rr,0,none⟩)] w (yd C lx rr A T d R p pv B b l w):=by
 refine(eS h.plus).mono ?_;rintro e w' ⟨f,h2⟩;rcases h2 with⟨hR,h2,bz,-,rfl⟩|⟨c,R',hR,h2,rfl⟩
 ·exact⟨(h.turn f h2).2,.inl ⟨hR,(h.turn f h2).1,bz,rfl⟩⟩
 ·exact⟨(h.turn f h2).2,.inr ⟨c,R',hR,(h.turn f h2).1,rfl⟩⟩
theorem oH{C:RC}{lx rr T d B b:Nat}{A:Nat→Prop}{ok:Bool}{R:List Int}{p pv:Ps}{l:List UInt8}{w:World}(c:Int)(h:BufSt C lx rr A ok T (d+1) R p pv B b l w):
  Calls prog 64 #[.pointer (some ⟨lx,0,none⟩),.int .i32 c] w fun e w'=>e= .returned (.tuple #[])∧BufSt C lx rr A ok T d R (aC p c) pv B b l w'∧Fr (LxF C lx A) w w':=by
 refine(eD c h.plus).mono ?_;rintro e w' ⟨rfl,h2,f⟩;exact⟨rfl,h.turn f h2⟩
theorem cw{C:RC}{lx rr T d B b:Nat}{A:Nat→Prop}{R:List Int}{p pv:Ps}{l:List UInt8}{w:World}(c:Int)(h:BufSt C lx rr A true T (d+1) R p pv B b l w):
  Calls prog 66 #[.pointer (some ⟨rr,0,none⟩),.int .i32 c] w fun e w'=>e= .returned (.tuple #[])∧BufSt C lx rr A true T d (c::R) p pv B b l w'∧Fr (LxF C lx A) w w':=by
 refine(dV c h.plus).mono ?_;rintro e w' ⟨rfl,h2,f⟩;exact⟨rfl,h.turn f h2⟩
theorem BufSt.wrote{C:RC}{lx rr T d B b:Nat}{A:Nat→Prop}{ok:Bool}{R:List Int}{p pv:Ps}{l l':List UInt8}{w w':World}(h:BufSt C lx rr A ok T d R p pv B b l w)(hb:Lib.IsBuffer 162 5 B b (Lib.byteCells l') w')(bl:Below B w w')(ok':Lib.OthersKept 5 (some b) w w'):BufSt C lx rr A ok T d R p pv B b l' w'∧Fr (LxF C lx A) w w':=by
 obtain⟨l1,l2,l3,l4,l5⟩:=h.low;have hB:=h.buf.1;have f:Fr (oW B b w) w w':=⟨bl.os,bl.tape,bl.output,bl.size,fun k hk hn=>by
  rcases Nat.lt_or_ge k B with g|g
  ·exact bl.block k g
  ·obtain⟨o,ho⟩:∃o,w.heap[k]? =some o:=⟨_,Array.getElem?_eq_getElem hk⟩;rw[ho];refine ok' k o ho (fun e=>hn (.inl (Option.some.inj e))) fun cs fz e=>?_
   subst e;exact hn (.inr ⟨g,cs,fz,ho⟩)⟩
 have hst:=h.plus;have hT:∀k cs,oW B b w k→w.heap[k]? ≠some (.cells cs 174 (0,0)):=by
  intro k cs e;rcases e with e|⟨-,cs',fz,e⟩
  ·subst e;obtain⟨cs',hk⟩:=pM h.buf;rw[hk];intro e;simp at e
  ·rw[e];intro e;simp at e
 have hA:∀k,A k→¬oW B b w k:=fun k a e=>by
  rcases e with e|⟨e,cs,fz,hk⟩
  ·exact(h.lowA k a).1 e
  ·exact(h.lowA k a).2 cs fz e hk
 have hlx:¬oW B b w lx:=hA lx h.st.la;refine⟨⟨⟨h.st.la,(hst.ru.fr f (fun k e=> .inr e) hT).less fun k e=> .inl e,f.blk hlx h.st.lb,h.st.ps,h.st.hT⟩,hb,h.low,fun k e=>⟨(h.lowA k e).1,fun cs fz hk hb'=>?_⟩⟩,f.mono fun k _ e=> .inl ⟨by have:=C.lo;rcases e with e|⟨e,-⟩<;>omega,fun a=>hA k a e⟩⟩;have hlt:=(h.st.ru.hA k e).2.2.2.2;rw[f.block k hlt (hA k e)] at hb';exact(h.lowA k e).2 cs fz hk hb'
def oX(C:RC)(lx rr:Nat)(A:Nat→Prop)(ok:Bool)(T d:Nat)(R:List Int)(p pv:Ps)(B b:Nat)(l':List UInt8)(w w':World):Prop:=BufSt C lx rr A ok T d R p pv B b l' w'∧Fr (LxF C lx A) w w'
theorem aX{C:RC}{lx rr T d B b:Nat}{A:Nat→Prop}{ok:Bool}{R:List Int}{p pv:Ps}{l:List UInt8}{w:World}(c:UInt8)(h:BufSt C lx rr A ok T d R p pv B b l w)(hl:l.length≤1000000000):
  Calls prog 98 #[.pointer (some ⟨b,0,none⟩),.int .u8 (c.toNat:Int)] w fun e w'=>e= .returned .nilIface∧oX C lx rr A ok T d R p pv B b (l++ [c]) w w':=by
 have hBw:B≤w.heap.size:=Nat.le_trans h.buf.1 (Nat.le_of_lt h.buf.lt);refine(Any.Buffer_WriteByte_k Tryz.lays179 B b (Lib.byteCells l) (c.toNat:Int) w h.buf hBw (Lib.byteCells_one _) (by rw[Lib.byteCells_length];omega)).mono ?_;rintro e w' ⟨rfl,h1,h2,h3⟩;refine⟨rfl,h.wrote ?_ h2 h3⟩;rw[show Lib.byteCells (l++ [c])=Lib.byteCells l++ [.int .u8 (c.toNat:Int)] from by simp[Lib.byteCells]];exact h1
theorem bJ{C:RC}{lx rr T d B b:Nat}{A:Nat→Prop}{ok:Bool}{R:List Int}{p pv:Ps}{l:List UInt8}{w:World}(c:Int)(h0: -2147483648≤c)(h1:c≤2147483647)(h:BufSt C lx rr A ok T d R p pv B b l w)(hl:l.length≤1000000000):
  Calls prog 99 #[.pointer (some ⟨b,0,none⟩),.int .i32 c] w fun e w'=>(∃n:Int,e= .returned (.tuple #[.int .i64 n,.nilIface]))∧oX C lx rr A ok T d R p pv B b (l++enc c) w w':=by
 have hBw:B≤w.heap.size:=Nat.le_trans h.buf.1 (Nat.le_of_lt h.buf.lt);refine(Any.Buffer_WriteRune_k Tryz.laysWr5 B b (Lib.byteCells l) c h0 h1 w h.buf hBw (Lib.byteCells_one _) (by rw[Lib.byteCells_length];omega)).mono ?_;rintro e w' ⟨rfl,h1,h2,h3⟩;refine⟨⟨_,rfl⟩,h.wrote ?_ h2 h3⟩;rw[Lib.byteCells_append,Lib.byteCells_encodeRune];exact h1
theorem ez{C:RC}{lx rr T d B b:Nat}{A:Nat→Prop}{ok:Bool}{R:List Int}{p pv:Ps}{l:List UInt8}{w:World}(s:ByteArray)(h:BufSt C lx rr A ok T d R p pv B b l w)(hl:l.length≤1000000000)(hs:s.size≤1000000000):
  Calls prog 101 #[.pointer (some ⟨b,0,none⟩),.string s] w fun e w'=>(∃n:Int,e= .returned (.tuple #[.int .i64 n,.nilIface]))∧oX C lx rr A ok T d R p pv B b (l++s.toList) w w':=by
 have hBw:B≤w.heap.size:=Nat.le_trans h.buf.1 (Nat.le_of_lt h.buf.lt);refine(Any.Buffer_WriteString_k Tryz.lays178 B b (Lib.byteCells l) s w h.buf hBw (Lib.byteCells_one _) (by rw[Lib.byteCells_length];omega)).mono ?_;rintro e w' ⟨rfl,h1,h2,h3⟩;refine⟨⟨_,rfl⟩,h.wrote ?_ h2 h3⟩;rw[Lib.byteCells_append,qi];exact h1
theorem vf{C:RC}{lx rr T d B b:Nat}{A:Nat→Prop}{ok:Bool}{R:List Int}{p pv:Ps}{l:List UInt8}{w:World}(h:BufSt C lx rr A ok T d R p pv B b l w):
  Calls prog 102 #[.pointer (some ⟨b,0,none⟩)] w fun e w'=>(∃t:ByteArray,e= .returned (.string t)∧t.toList=l)∧Keep w w':=by
 refine(Any.Buffer_String Tryz.lays182 B b l w h.buf).mono ?_;rintro e w' ⟨rfl,n,rfl⟩;exact⟨⟨_,rfl,by rw[qi]⟩,⟨rfl,rfl,rfl,Nat.le_refl _,fun _ _ _=>rfl⟩⟩
theorem yp(r:Nat)(c1:r<128):(Utf8.encode (r:Int)).data.toList=[UInt8.ofNat r]:=by
 have v:Utf8.valid (r:Int)=true:=by simp[Utf8.valid];omega
 simp[Utf8.encode,v,c1]
theorem yo(r:Nat)(c1:¬r<128)(c2:r<2048):(Utf8.encode (r:Int)).data.toList=[UInt8.ofNat (192+r/64),UInt8.ofNat (128+r%64)]:=by
 have v:Utf8.valid (r:Int)=true:=by simp[Utf8.valid];omega
 simp[Utf8.encode,v,c1,c2]
theorem yn(r:Nat)(c2:¬r<2048)(c3:r<65536)(hv:r<55296∨57344≤r):(Utf8.encode (r:Int)).data.toList=[UInt8.ofNat (224+r/4096),UInt8.ofNat (128+r/64%64),UInt8.ofNat (128+r%64)]:=by
 have v:Utf8.valid (r:Int)=true:=by simp[Utf8.valid];omega
 have c1:¬r<128:=by omega
 simp[Utf8.encode,v,c1,c2,c3]
theorem ym(r:Nat)(c3:¬r<65536)(c4:r≤1114111):(Utf8.encode (r:Int)).data.toList=[UInt8.ofNat (240+r/262144),UInt8.ofNat (128+r/4096%64),UInt8.ofNat (128+r/64%64),UInt8.ofNat (128+r%64)]:=by
 have v:Utf8.valid (r:Int)=true:=by simp[Utf8.valid];omega
 have c1:¬r<128:=by omega
 have c2:¬r<2048:=by omega
 simp[Utf8.encode,v,c1,c2,c3]
theorem tZ(r:Nat)(h:(55296≤r∧r≤57343)∨1114111<r):(Utf8.encode (r:Int)).data.toList=[239,191,189]:=by
 have v:Utf8.valid (r:Int)=false:=by simp[Utf8.valid];omega
 simp[Utf8.encode,v,Utf8.runeError]
theorem zb(x:Nat):((x:Int)).toNat.toUInt8=UInt8.ofNat x:=by simp[Nat.toUInt8]
theorem ri(r:Nat):(Utf8.encode (r:Int)).toList=enc (r:Int):=by
 rw[qi];unfold enc Go.Lib.encodeRune;by_cases c1:r<128
 ·rw[yp r c1,Lib.encodeRuneZ_one (by omega) (by omega)];simp only[List.map_cons,List.map_nil,zb]
 by_cases c2:r<2048
 ·rw[yo r c1 c2,Lib.encodeRuneZ_two (by omega) (by omega)];have e1:(192+(r:Int) /64)=((192+r/64:Nat):Int):=by omega
  have e2:(128+(r:Int) %64)=((128+r%64:Nat):Int):=by omega
  rw[e1,e2];simp only[List.map_cons,List.map_nil,zb]
 by_cases hv:(55296≤r∧r≤57343)∨1114111<r
 ·rw[tZ r hv,Lib.encodeRuneZ_bad (by omega)];rfl
 by_cases c3:r<65536
 ·rw[yn r c2 c3 (by omega),Lib.encodeRuneZ_three (by omega)];have e1:(224+(r:Int) /4096)=((224+r/4096:Nat):Int):=by omega
  have e2:(128+(r:Int) /64%64)=((128+r/64%64:Nat):Int):=by omega
  have e3:(128+(r:Int) %64)=((128+r%64:Nat):Int):=by omega
  rw[e1,e2,e3];simp only[List.map_cons,List.map_nil,zb]
 ·rw[ym r c3 (by omega),Lib.encodeRuneZ_four (by omega) (by omega)];have e1:(240+(r:Int) /262144)=((240+r/262144:Nat):Int):=by omega
  have e2:(128+(r:Int) /4096%64)=((128+r/4096%64:Nat):Int):=by omega
  have e3:(128+(r:Int) /64%64)=((128+r/64%64:Nat):Int):=by omega
  have e4:(128+(r:Int) %64)=((128+r%64:Nat):Int):=by omega
  rw[e1,e2,e3,e4];simp only[List.map_cons,List.map_nil,zb]
theorem cA{c:Int}(h:0≤c):(Utf8.encode c).toList=enc c:=by
 obtain⟨n,rfl⟩:=Int.eq_ofNat_of_zero_le h;exact ri n
theorem iU(xs:List Int)(h:∀c∈xs,0≤c):(runesBytes xs).toList=aO xs:=by
 have key:∀ (xs:List Int) (s:ByteArray),(∀c∈xs,0≤c)→(xs.foldl (fun r n=>r++Utf8.encode n) s).toList=s.toList++aO xs:=by
  intro xs
  induction xs with
  |nil=>intro s _;simp[aO]
  |cons c xs ih=>
   intro s h;rw[List.foldl_cons,ih _ fun x hx=>h x (by simp[hx])];have e:=cA (h c (by simp));have:(s++Utf8.encode c).toList=s.toList++enc c:=by
    rw[qi] at e;rw[qi,qi,ByteArray.data_append,Array.toList_append,e]
   rw[this];simp[aO]
 unfold runesBytes;rw[key xs _ h,show ByteArray.empty.toList=[] from by rw[qi];rfl,List.nil_append]
theorem jH{w:World}{g cap:Nat}{xs:List Int}(h:∀j (hj:j<xs.length),w.cell? ⟨g,j,none⟩=some (.int .i32 xs[j]))(ha:∀c∈xs,0≤c):(convert 123 9 (.slice (some ⟨g,0,none⟩) xs.length cap)).run prog w= .ok (.string (runesBytes xs)) w∧(runesBytes xs).toList=aO xs:=by
 refine⟨?_,iU xs ha⟩;have hr:=run_convert_runes (P:=prog) w 123 9 21 ⟨g,0,none⟩ xs.length cap xs qr (by kernel_rfl) (by kernel_rfl) (by kernel_rfl) fun j hj=>by
  rw[show(Addr.add ⟨g,0,none⟩ j)=⟨g,j,none⟩ from by simp[Addr.add]<;>omega,h j hj];simp[List.getD,hj]
 rw[List.take_length] at hr;exact hr
theorem aI(c:Int):(enc c).length≤4:=by
 unfold enc Go.Lib.encodeRune;rw[List.length_map];exact(Lib.encodeRuneZ_length c).2
theorem ck(xs:List Int):(aO xs).length≤4*xs.length:=by
 induction xs with
 |nil=>simp[aO]
 |cons c xs ih=>
  have e:aO (c::xs)=enc c++aO xs:=by simp[aO]
  rw[e,qk,List.length_cons];have:=aI c;omega
end Go.Proofs.YtnclklfhjbkjhaaGreatDoor
namespace Go.Proofs.YtnclklfhjbkjhaaGreatDoor
open Go.RowKit Go.Lib
def Cp(R:List Int):Prop:=∀c∈R,0≤c∧c≤1114111
theorem Cp.tail{c:Int}{R:List Int}(h:Cp (c::R)):Cp R:=fun x hx=>h x (by simp[hx])
theorem Cp.head{c:Int}{R:List Int}(h:Cp (c::R)):0≤c∧c≤1114111:=h c (by simp)
theorem iQ(q:Int)(acc:List UInt8)(p:Ps):strF q [] acc p=⟨acc,p,[]⟩:=by rw[strF.eq_def]
theorem mv{q:Int}{r:List Int}{acc:List UInt8}{p:Ps}:strF q (q::r) acc p=⟨acc,aC p q,r⟩:=by
 rw[strF.eq_def];simp
theorem mw{q:Int}{acc:List UInt8}{p:Ps}(h:(92:Int)≠q):strF q [92] acc p=⟨acc++bsl,aC p 92,[]⟩:=by
 rw[strF.eq_def];simp[h]
theorem o8{q d:Int}{r:List Int}{acc:List UInt8}{p:Ps}(h:(92:Int)≠q):strF q (92::d::r) acc p=strF q (aU d r).rest (acc++ (aU d r).out) (aC p 92):=by
 rw[strF.eq_def q (92::d::r)];show(if(92:Int)=q then _ else if(92:Int)=92 then _ else _)=_;rw[if_neg h,if_pos rfl]
theorem j_{q c:Int}{r:List Int}{acc:List UInt8}{p:Ps}(h:c≠q)(h2:c≠92):strF q (c::r) acc p=strF q r (acc++enc c) (aC p c):=by
 rw[strF.eq_def q (c::r)];show(if c=q then _ else if c=92 then _ else _)=_;rw[if_neg h,if_neg h2]
theorem jt(P:Es→Prop)(c:Int)(r:List Int)(hx:P (dt c r))(ho:P (cu c r))(hu:P ⟨da c 4 false r,r.drop 4⟩)(hU:P ⟨da c 8 true r,r.drop 8⟩)(h1:∀b,P ⟨[b],r⟩)(hd:P ⟨bsl++enc c,r⟩):P (aU c r):=by
 unfold aU;by_cases e:c=120∨c=88
 ·rw[if_pos e];exact hx
 rw[if_neg e];clear e;by_cases e:dE c=true
 ·rw[if_pos e];exact ho
 rw[if_neg e];clear e;by_cases e:c=117
 ·rw[if_pos e];exact hu
 rw[if_neg e];clear e;by_cases e:c=85
 ·rw[if_pos e];exact hU
 rw[if_neg e];clear e;by_cases e:c=97
 ·rw[if_pos e];exact h1 _
 rw[if_neg e];clear e;by_cases e:c=98
 ·rw[if_pos e];exact h1 _
 rw[if_neg e];clear e;by_cases e:c=102
 ·rw[if_pos e];exact h1 _
 rw[if_neg e];clear e;by_cases e:c=110
 ·rw[if_pos e];exact h1 _
 rw[if_neg e];clear e;by_cases e:c=114
 ·rw[if_pos e];exact h1 _
 rw[if_neg e];clear e;by_cases e:c=116
 ·rw[if_pos e];exact h1 _
 rw[if_neg e];clear e;by_cases e:c=118
 ·rw[if_pos e];exact h1 _
 rw[if_neg e];clear e;by_cases e:c=92
 ·rw[if_pos e];exact h1 _
 rw[if_neg e];clear e;by_cases e:c=39
 ·rw[if_pos e];exact h1 _
 rw[if_neg e];clear e;by_cases e:c=34
 ·rw[if_pos e];exact h1 _
 rw[if_neg e];clear e;by_cases e:c=63
 ·rw[if_pos e];exact h1 _
 rw[if_neg e];clear e;exact hd
theorem xh{d:Int}{R:List Int}(h:Cp (d::R)):Cp (aU d R).rest:=by
 have ht:=h.tail;have hd:∀n,Cp (R.drop n):=fun n x hx=>ht x (List.mem_of_mem_drop hx)
 refine jt (fun e=>Cp e.rest) d R ?_ ?_ (hd 4) (hd 8) (fun _=>ht) ht
 ·match R,ht with
  | [],_=>exact fun x hx=>by simp[dt] at hx
  | [c1],_=>exact fun x hx=>by simp[dt] at hx
  |c1::c2::r,ht=>
   simp only[dt];split
   ·exact ht.tail.tail
   ·exact ht.tail
 ·match R,ht with
  | [],_=>exact fun x hx=>by simp[cu] at hx
  | [c2],ht=>
   simp only[cu];split
   ·exact fun x hx=>by simp at hx
   ·exact ht
  |c2::c3::r,ht=>
   simp only[cu];split
   ·split
    ·exact ht.tail.tail
    ·exact ht.tail
   ·exact ht
theorem ba:bsl.length=1:=rfl
theorem er(o:List UInt8):(b_ o).length≤o.length+1:=by
 unfold b_;split
 ·rw[qk,ba];omega
 ·split
  ·rw[qk,ba];omega
  ·simp
theorem rp(n:Nat)(R:List Int):(aO (R.take n++List.replicate (n-R.length) 0)).length≤4*n:=by
 have h:=ck (R.take n++List.replicate (n-R.length) 0);rw[qk,List.length_take,List.length_replicate] at h;omega
theorem iM(c:Int)(n:Nat)(big:Bool)(R:List Int)(hn:n≤8):(da c n big R).length≤90:=by
 have he:=aI c;have ht:=rp n R;unfold da;simp only;generalize hu:aO (R.take n++List.replicate (n-R.length) 0)=U at*
 rw[qk];refine Nat.le_trans (Nat.add_le_add (b:=37) (d:=37) ?_ ?_) (by decide)
 ·split
  ·have:=ck R;rw[qk,qk,ba];omega
  ·simp
 ·split
  ·rw[qk,qk,ba];omega
  ·split
   ·rw[qk,qk,ba];omega
   ·rename_i i _ _;have:=aI i;omega
theorem pH(d:Int)(R:List Int):(aU d R).out.length+100* (aU d R).rest.length≤100*R.length+100:=by
 have he:=aI d;have hn:∀n:Nat,(R.drop n).length≤R.length:=fun n=>by rw[List.length_drop];omega
 refine jt (fun e=>e.out.length+100*e.rest.length≤100*R.length+100) d R ?_ ?_ ?_ ?_ (fun b=>by simp;omega) (by simp only[qk,ba];omega)
 ·match R with
  | []=>simp only[dt,qk,ba,List.length_nil];omega
  | [c1]=>
   have:=aI c1;simp only[dt,qk,ba,List.length_nil];omega
  |c1::c2::r=>
   have h1:=aI c1;have h2:=aI c2;simp only[dt];have ho:(if eU c2=true then enc c1++enc c2 else enc c1).length≤8:=by
    split
    ·rw[qk];omega
    ·omega
   have hr:(if eU c2=true then r else c2::r).length≤r.length+1:=by
    split
    ·omega
    ·simp
   generalize(if eU c2=true then enc c1++enc c2 else enc c1)=H at*
   generalize(if eU c2=true then r else c2::r)=S at*
   split
   ·simp only[qk,ba,List.length_cons];omega
   ·simp only[List.length_cons,List.length_nil];omega
 ·match R with
  | []=>simp only[cu,qk,ba,List.length_nil];omega
  | [c2]=>
   have h2:=aI c2;have h3:=er (enc d);simp only[cu];split
   ·simp only[qk,ba,List.length_nil];omega
   ·simp only[List.length_cons,List.length_nil];omega
  |c2::c3::r=>
   have h2:=aI c2;have h3:=aI c3;have h4:=er (enc d);have h5:=er (enc d++enc c2);have h6:=er (enc d++enc c2++enc c3);simp only[qk] at h5 h6;simp only[cu];split
   ·split
    ·simp only[List.length_cons];omega
    ·simp only[List.length_cons];omega
   ·simp only[List.length_cons];omega
 ·have h1:=iM d 4 false R (by decide);have h2:=hn 4;simp only;omega
 ·have h1:=iM d 8 true R (by decide);have h2:=hn 8;simp only;omega
def tG(C:RC)(lx rr:Nat)(A:Nat→Prop)(T:Nat)(x:Sr)(pv:Ps)(w:World)(e:Ending)(w':World):Prop:=
 ∃t:ByteArray,e= .returned (.string t)∧t.toList=x.out∧LxSt C lx rr A false T 0 x.rest x.ps pv w'∧Fr (LxF C lx A) w w'
theorem BufSt.new{C:RC}{lx rr T d:Nat}{A:Nat→Prop}{ok:Bool}{R:List Int}{p pv:Ps}{w:World}(h:LxSt C lx rr A ok T d R p pv w):
  BufSt C lx rr A ok T d R p pv w.heap.size w.heap.size [] (w.alloc (.cells #[.slice none 0 0,.int .i64 0,.int .i8 0] 162)):=by
 obtain⟨U,Bs,uv,ev,h1,h2,h3,h4,h5⟩:=h.ru.st;have hrr:=af h1;obtain⟨r,e,buf,tx,ev2,hb,-⟩:=h4;refine⟨h.keep ((Fr.refl w).alloc _),Lib.fresh_isBuffer 162 5 w,⟨hb.facts.1,hb.facts.2.1,hb.facts.2.2.1,hrr,h.lt lx h.la⟩,fun k e=>?_⟩;have:=h.lt k e;exact⟨by omega,fun cs fz hk=>by omega⟩
structure SL1(C:RC)(lx rr:Nat)(A:Nat→Prop)(T:Nat)(q:Int)(R:List Int)(p pv:Ps)(B:Nat)(w:World)(R':List Int)(p':Ps)(ok':Bool)(l':List UInt8)(wr:World):Prop where
 eq:strF q R [] p=strF q R' l' p'
 fr:Fr (LxF C lx A) w wr
 st:BufSt C lx rr A ok' T 0 R' p' pv B B l' wr
 cp:Cp R'
 len:l'.length+100*R'.length≤100*R.length
theorem SL1.small{C:RC}{lx rr T B:Nat}{A:Nat→Prop}{q:Int}{R R':List Int}{p pv p':Ps}{w wr:World}{ok':Bool}{l':List UInt8}(h:SL1 C lx rr A T q R p pv B w R' p' ok' l' wr)(hR:R.length≤1000000):l'.length≤100000000:=by
 have:=h.len;omega
theorem BufSt.slack{C:RC}{lx rr T d B b:Nat}{A:Nat→Prop}{ok:Bool}{R:List Int}{p pv:Ps}{l:List UInt8}{w:World}(h:BufSt C lx rr A ok T (d+1) R p pv B b l w):BufSt C lx rr A ok T d R p pv B b l w:=⟨h.st.slack,h.buf,h.low,h.lowA⟩
theorem yK(r:List Int):aU 97 r=⟨[7],r⟩:=by unfold aU;rfl
theorem yJ(r:List Int):aU 98 r=⟨[8],r⟩:=by unfold aU;rfl
theorem xq(r:List Int):aU 102 r=⟨[12],r⟩:=by unfold aU;rfl
theorem xp(r:List Int):aU 110 r=⟨[10],r⟩:=by unfold aU;rfl
theorem xo(r:List Int):aU 114 r=⟨[13],r⟩:=by unfold aU;rfl
theorem xn(r:List Int):aU 116 r=⟨[9],r⟩:=by unfold aU;rfl
theorem xj(r:List Int):aU 118 r=⟨[11],r⟩:=by unfold aU;rfl
theorem yL(r:List Int):aU 92 r=⟨[92],r⟩:=by unfold aU;rfl
theorem yP(r:List Int):aU 39 r=⟨[39],r⟩:=by unfold aU;rfl
theorem yQ(r:List Int):aU 34 r=⟨[34],r⟩:=by unfold aU;rfl
theorem yO(r:List Int):aU 63 r=⟨[63],r⟩:=by unfold aU;rfl
theorem xi(r:List Int):aU 120 r=dt 120 r:=by unfold aU;rfl
theorem yM(r:List Int):aU 88 r=dt 88 r:=by unfold aU;rfl
theorem xm(r:List Int):aU 117 r=⟨da 117 4 false r,r.drop 4⟩:=by unfold aU;rfl
theorem yN(r:List Int):aU 85 r=⟨da 85 8 true r,r.drop 8⟩:=by unfold aU;rfl
theorem zq{d:Int}(h:dE d=true)(r:List Int):aU d r=cu d r:=by
 have hd:48≤d∧d≤55:=by
  simp only[dE,Bool.and_eq_true,decide_eq_true_eq] at h;exact h
 unfold aU;rw[if_neg (by omega),if_pos h]
def tP(d:Int):Prop:=d≠120∧d≠88∧dE d=false∧d≠117∧d≠85∧d≠97∧d≠98∧d≠102∧d≠110∧d≠114∧d≠116∧d≠118∧d≠92∧d≠39∧d≠34∧d≠63
theorem zr{d:Int}(h:tP d)(r:List Int):aU d r=⟨bsl++enc d,r⟩:=by
 obtain⟨h1,h2,h3,h4,h5,h6,h7,h8,h9,h10,h11,h12,h13,h14,h15,h16⟩:=h;unfold aU;rw[if_neg (by omega),if_neg (by rw[h3];decide),if_neg h4,if_neg h5,if_neg h6,if_neg h7,if_neg h8,if_neg h9,if_neg h10,if_neg h11,if_neg h12,if_neg h13,if_neg h14,if_neg h15,if_neg h16]
theorem s_(d:Int):(d=97∨d=98∨d=102∨d=110∨d=114∨d=116∨d=118∨d=92∨d=39∨d=34∨d=63)∨tP d∨(d=120∨d=88)∨dE d=true∨d=117∨d=85:=by
 by_cases h3:dE d=true
 ·exact .inr (.inr (.inr (.inl h3)))
 ·have h3':dE d=false:=by
   cases h:dE d
   ·rfl
   ·exact absurd h h3
  by_cases hk:d=97∨d=98∨d=102∨d=110∨d=114∨d=116∨d=118∨d=92∨d=39∨d=34∨d=63
  ·exact .inl hk
  by_cases hx:d=120∨d=88
  ·exact .inr (.inr (.inl hx))
  by_cases hu:d=117
  ·exact .inr (.inr (.inr (.inr (.inl hu))))
  by_cases hU:d=85
  ·exact .inr (.inr (.inr (.inr (.inr hU))))
  refine .inr (.inl ⟨by omega,by omega,h3',hu,hU,?_⟩);omega
theorem iq(v:Int):IntKind.u8.wrap v=((dN v).toNat:Int):=by
 rw[IntKind.wrap_u8'];unfold dN;have h1:0≤v%256:=Int.emod_nonneg _ (by decide);have h2:v%256<256:=Int.emod_lt_of_pos _ (by decide);rw[UInt8.toNat_ofNat'];omega
end Go.Proofs.YtnclklfhjbkjhaaGreatDoor
