/- Part of the proof: J7 J8. -/
import Derived.Test.YtnclklfhjbkjhaaGreatDoorJb
import Derived.Test.YtnclklfhjbkjhaaGreatDoorJd
import Derived.Test.YtnclklfhjbkjhaaGreatDoorHc
import Derived.OwnWalk
set_option maxRecDepth 1000000
set_option maxHeartbeats 40000000
set_option linter.unusedSimpArgs false
namespace Go.Proofs.YtnclklfhjbkjhaaGreatDoor
open Tryz
open Go.RowKit
def vF(ev:Value):Prop:=ev= .nilIface∨∃k:Int,(k=1∨k=2)∧ev= .iface 218 (.int .i64 k)
theorem nZ(m e:Int)(w:World)(h0: -3000≤e)(h1:e≤3000):Calls prog 200 #[.int .u64 m,.int .i64 e] w (fun en w'=>(∃ (f:Nat) (ev:Value),en= .returned (.tuple #[.float .f64 f,ev])∧vF ev)∧w=w'):=by
 go_enter func200,ntmps200;go_wp2_with fail
 all_goals
  first|exact qh (results_tmp2 results200 _ _ _) rfl ⟨⟨_,_,rfl,.inl rfl⟩,rfl⟩|exact qh (results_tmp2 results200 _ _ _) rfl ⟨⟨_,_,rfl,.inr ⟨1,.inl rfl,rfl⟩⟩,rfl⟩|exact qh (results_tmp2 results200 _ _ _) rfl ⟨⟨_,_,rfl,.inr ⟨2,.inr rfl,rfl⟩⟩,rfl⟩
theorem cK(m:Int)(k:Nat)(w:World)(hk:k<659)(hk3:3≤k)(hp:PT w)(hm0:0≤m)(hm1:m<18446744073709551616):
  Calls prog 183 #[.int .u64 m,.int .i64 ((k:Int) -348),.int .u64 0] w (fun en w'=>(∃ (f:Nat) (ev:Value),en= .returned (.tuple #[.float .f64 f,ev])∧vF ev)∧Keep w w'):=by
 go_enter func183,ntmps183;go_wp2_with first
  |(go_at_call 190;refine(kH _ _ hm0 hm1).mono ?_;rintro e w' ⟨⟨b,rfl,hb0,hb1⟩,rfl⟩)
  |(go_at_call 191;refine(fI _ _ (by omega) (by omega)).mono ?_;rintro e w' ⟨⟨lp,rfl,hl0,hl1⟩,rfl⟩)
  |(go_at_call 192;refine(gi _ _ k _ (by omega) hp (by omega) (by omega) (by omega) (by omega)).mono ?_;rintro e w2 ⟨rfl,x0,x1,s,kk,c0,c1,c2⟩)
  |(go_at_call 193;refine(iK _ _ _ _ _ _ c0 c1 c2).mono ?_;rintro e w3 ⟨⟨u,rfl⟩,k3⟩)
  |(go_at_call 195;refine(j6 _ _).mono ?_;rintro e w' ⟨⟨um,rfl⟩,rfl⟩)
  |(go_at_call 194;refine(iu _ _).mono ?_;rintro e w' ⟨⟨sh,rfl,hs0,hs1⟩,rfl⟩)
  |(go_at_call 197;refine(km _ _).mono ?_;rintro e w' ⟨⟨ur,rfl⟩,rfl⟩)
  |(go_at_call 200;refine(nZ _ _ _ (by omega) (by omega)).mono ?_;rintro e w' ⟨⟨f,ev,rfl,hev⟩,rfl⟩)
 all_goals
  first
  |exact qh (results_tmp2 results183 _ _ _) rfl ⟨⟨_,_,rfl,hev⟩,kk.trans k3⟩
  |exact qh (results_tmp2 results183 _ _ _) rfl ⟨⟨_,_,rfl,.inl rfl⟩,kk⟩
structure LT(w:World):Prop where
 lc:∃B o,w.cell? ⟨21,0,none⟩=some (.slice (some ⟨B,o,none⟩) 61 61)∧∀k,1≤k→k≤60→∃ (d:Nat) (s:ByteArray) (c:List Nat),w.cell? ⟨B,o+k*2,none⟩=some (.int .i64 (d:Int))∧w.cell? ⟨B,o+k*2+1,none⟩=some (.string s)∧iG s c∧Cheat k d c
 pw:∃B o,w.cell? ⟨17,0,none⟩=some (.slice (some ⟨B,o,none⟩) 9 9)∧∀k<9,∃v:Nat,w.cell? ⟨B,o+k,none⟩=some (.int .i64 (v:Int))∧0<v∧v≤27
theorem LT.keep{w w':World}(h:LT w)(k:Keep w w'):LT w':=by
 obtain⟨⟨B,o,h1,h2⟩,⟨B',o',h3,h4⟩⟩:=h;refine⟨⟨B,o,Keep.cell k h1,fun j g1 g2=>?_⟩,⟨B',o',Keep.cell k h3,fun j g=>?_⟩⟩
 ·obtain⟨d,s,c,k1,k2,k3⟩:=h2 j g1 g2;exact⟨d,s,c,Keep.cell k k1,Keep.cell k k2,k3⟩
 ·obtain⟨v,k1,k2⟩:=h4 j g;exact⟨v,Keep.cell k k1,k2⟩
theorem LT.lcAt{w w':World}(h:LT w)(k:Keep w w'):LC w' w.heap.size:=by
 obtain⟨⟨B,o,h1,h2⟩,-⟩:=h;have l1:=ax h1;obtain⟨d,s,c,k1,-⟩:=h2 1 (by decide) (by decide);have l2:=ax k1;refine⟨by omega,B,o,by omega,Keep.cell k h1,fun j g1 g2=>?_⟩;obtain⟨d,s,c,k1,k2,k3⟩:=h2 j g1 g2;exact⟨d,s,c,Keep.cell k k1,Keep.cell k k2,k3⟩
theorem LT.fiAt{w w':World}(h:LT w)(g:FG w)(k:Keep w w'):FI w' w.heap.size:=by
 obtain⟨-,B,o,h1,h2⟩:=h;have l1:=ax h1;have l3:=ax g.i0;obtain⟨v,k1,-⟩:=h2 0 (by decide);have l2:=ax k1;refine⟨⟨by omega,by omega⟩,Keep.cell k g.i0,Keep.cell k g.i1,Keep.cell k g.i2,B,o,by omega,Keep.cell k h1,fun j hj=>?_⟩;obtain⟨v,k1,k2⟩:=h2 j hj;exact⟨v,Keep.cell k k1,k2⟩
theorem tW:(List.range 800).all (fun i=>match Tryz.zeroCells263[i]? with|some (.int .u8 0)=>true|_=>false)=true:=by kernel_rfl
theorem va:DC Tryz.zeroCells263 [] 0 false:=by
 refine⟨Tryz.zeroCells263_size,by kernel_rfl,by kernel_rfl,by kernel_rfl,by kernel_rfl,fun i hi=>⟨0,?_,by decide,by decide⟩,fun i hi=>absurd hi (by simp),fun d hd=>absurd hd (by simp),by simp⟩;have h:=List.all_eq_true.1 tW i (by simp[hi]);split at h
 ·assumption
 ·exact absurd h (by decide)
theorem xv(w:World):DM (w.alloc (Obj.cells Tryz.zeroCells263 263)) w.heap.size [] 0 false:=⟨_,kQ w _,va⟩
theorem Fr.new{w w':World}{o:Obj}(h:Fr (· =w.heap.size) (w.alloc o) w'):Keep w w':=
 (Fr.trans (Fr.alloc (Fr.refl w) o) h).mono fun k hk e=>by
  have e':k=w.heap.size:=e;omega
theorem Fx.of{s:ByteArray}(hs:s.size≤100000)(h:RealOk s){i:Nat}(hi:i≤s.size):Fx (s.extract 0 i):=by
 have hz:(s.extract 0 i).size=i:=by rw[qo];omega
 refine⟨by omega,fun j hj=>?_,fun h0=>?_⟩
 ·have h1:=h.1 j (by omega);rw[aq (by omega)] at h1;rw[ByteArray.getElem_extract];simpa using h1
 ·have h1:=h.2.2;rw[aq h.2.1] at h1;rw[ByteArray.getElem_extract];simp only[Nat.zero_add];rcases h1 with h|h
  ·simp only[aV,Bool.and_eq_true,decide_eq_true_eq] at h;omega
  ·omega
def tU(w:World)(e:Ending)(w':World):Prop:=(∃ (f:Nat) (n:Int) (ev:Value),e= .returned (.tuple #[.float .f64 f,.int .i64 n,ev])∧vF ev)∧Keep w w'
theorem oL(s:ByteArray)(w:World)(hs:s.size≤100000)(hok:RealOk s)(hg:FG w)(hp:PT w)(hl:LT w):
  Calls prog 166 #[.string s] w (tU w):=by
 have HG:=Z hg;have HPT:=Z hp;have HLT:=Z hl;have HOK:=Z hok;have hopt:=hg.opt;clear hg hp hl hok;go_enter func166,ntmps166;go_wp2_with first
  |(go_at_call 171;refine(mx s _ hs HOK).mono ?_;rintro e w' ⟨rfl,rfl⟩)
  |(go_at_call 172;refine(jQ s _ hs HOK).mono ?_;rintro e w' ⟨m,x,tr,i,ok,rfl,rfl,hm0,hm1,hx0,hx1,hi⟩;refine Hid.out ?_)
 refine Z ?_;have hiz:(i:Int)≤(s.size:Int):=by omega
 cases ok
 ·go_wp2_with fail;exact qh (results_tmp3 results166 _ _ _) rfl ⟨⟨_,_,_,rfl,.inr ⟨2,.inr rfl,rfl⟩⟩,Fr.refl _⟩
 by_cases h0:m=0
 ·subst h0;go_wp2_with first
   |(go_at_call 180;refine(cN false _).mono ?_;rintro e w' ⟨rfl,rfl⟩)
  exact qh (results_tmp3 results166 _ _ _) rfl ⟨⟨_,_,_,rfl,.inl rfl⟩,Fr.refl _⟩
 have hm9:(m==0)=false:=beq_eq_false_iff_ne.2 h0;by_cases h310:x>310
 ·go_wp2_with first
   |(go_at_call 180;refine(cN false _).mono ?_;rintro e w' ⟨rfl,rfl⟩)
  exact qh (results_tmp3 results166 _ _ _) rfl ⟨⟨_,_,_,rfl,.inr ⟨1,.inl rfl,rfl⟩⟩,Fr.refl _⟩
 by_cases h345:x< -345
 ·go_wp2_with first
   |(go_at_call 180;refine(cN false _).mono ?_;rintro e w' ⟨rfl,rfl⟩)
  exact qh (results_tmp3 results166 _ _ _) rfl ⟨⟨_,_,_,rfl,.inl rfl⟩,Fr.refl _⟩
 obtain⟨k,hk⟩:=Int.eq_ofNat_of_zero_le (show 0≤x+348 by omega);have hxk:x=(k:Int) -348:=by omega
 subst hxk;have hk1:k<659:=by omega
 have hk3:3≤k:=by omega
 have HHI:=Z hi;clear hk hi hx0 hx1;cases tr
 ·go_wp2_with first
   |(go_at_call 180;refine(cN false _).mono ?_;rintro e w' ⟨rfl,rfl⟩)
   |(go_at_call 182;refine(iB m ((k:Int) -348) _ HG hm0 (by omega) (by omega) (by omega)).mono ?_;rintro e w' ⟨f,ok,rfl,rfl⟩;cases ok)
   |(go_at_call 183;refine(cK m k _ hk1 hk3 HPT hm0 (by omega)).mono ?_;rintro e w' ⟨⟨f2,ev,rfl,hev⟩,kk⟩)
  all_goals
   first
   |exact qh (results_tmp3 results166 _ _ _) rfl ⟨⟨_,_,_,rfl,.inl rfl⟩,Fr.refl _⟩
   |exact qh (results_tmp3 results166 _ _ _) rfl ⟨⟨_,_,_,rfl,hev⟩,kk⟩
 ·have hm1w:IntKind.u64.wrap (m+1)=m+1:=by rw[IntKind.wrap_u64];omega
  go_wp2_with first
   |(go_at_call 180;refine(cN false _).mono ?_;rintro e w' ⟨rfl,rfl⟩)
   |(go_at_call 183;refine(cK m k _ hk1 hk3 HPT hm0 (by omega)).mono ?_;rintro e w' ⟨⟨f2,ev,rfl,hev⟩,kk⟩;refine Hid.out ?_)
  refine Z ?_;go_wp2_with first
   |(go_at_call 183;refine(cK (m+1) k _ hk1 hk3 (HPT.keep kk) (by omega) (by omega)).mono ?_;rintro e w3 ⟨⟨f3,ev3,rfl,hev3⟩,k3⟩;refine Hid.out ?_)
  refine Z ?_;have HFX:=Z (Fx.of hs HOK HHI);have HK3:=Z (kk.trans k3);have hext:s.extract 0 i=s.extract 0 i:=rfl;clear hext;go_wp2_with first
   |(go_at_call 178;refine(ui _ _ 0 false _ HFX (xv _)).mono ?_;rintro e w4 ⟨ok4,rfl,hF4,l4,dp4,tr4,hdm4,hp4⟩;refine Hid.out ?_)
  ·exact qh (results_tmp3 results166 _ _ _) rfl ⟨⟨_,_,_,rfl,hev⟩,HK3⟩
  ·have HK4:=Z (HK3.trans (Fr.new hF4));have HKn:Hid (Keep w3 w4):=Z (Fr.new hF4);refine Z ?_;cases ok4
   ·go_wp2_with fail;exact qh (results_tmp3 results166 _ _ _) rfl ⟨⟨_,_,_,rfl,.inr ⟨2,.inr rfl,rfl⟩⟩,HK4⟩
   ·have HFI:=Z ((HLT.keep HK3).fiAt (HG.keep HK3) HKn);have HLC:=Z ((HLT.keep HK3).lcAt HKn);have hfb:Calls prog 179 #[.pointer (some ⟨w3.heap.size,0,none⟩),.pointer (some ⟨15,0,none⟩)] w4 (oV w3.heap.size w4):=by
     cases l4 with
     |nil=>exact jU _ dp4 tr4 w4 hdm4 HFI.out
     |cons a t=>exact jV _ a t dp4 tr4 w4 (hp4 a t rfl) hdm4 HFI HLC.out
    have HFB:=Z hfb;clear hfb;go_wp2_with first
     |(go_at_call 179;refine HFB.mono ?_;rintro e w5 ⟨⟨xb,o,rfl⟩,hF5⟩;cases o)
    all_goals
     have hk5:Keep w w5:=((HK3.trans (Fr.new (Fr.trans hF4 hF5))))
     first
     |exact qh (results_tmp3 results166 _ _ _) rfl ⟨⟨_,_,_,rfl,.inl rfl⟩,hk5⟩
     |exact qh (results_tmp3 results166 _ _ _) rfl ⟨⟨_,_,_,rfl,.inr ⟨1,.inl rfl,rfl⟩⟩,hk5⟩
theorem iy(s:ByteArray)(w:World)(hs:s.size≤100000)(hok:RealOk s)(hg:FG w)(hp:PT w)(hl:LT w):
  Calls prog 159 #[.string s,.int .i64 64] w (tU w):=by
 have HA:=Z (oL s w hs hok hg hp hl);clear hg hp hl hok;go_enter func159,ntmps159;go_wp2_with (go_at_call 166;refine HA.mono ?_;rintro e w' ⟨⟨f,n,ev,rfl,hev⟩,kk⟩);exact qh (results_tmp3 results159 _ _ _) rfl ⟨⟨_,_,_,rfl,hev⟩,kk⟩
def vA(w:World)(e:Ending)(w':World):Prop:=(∃ (f:Nat) (ev:Value),e= .returned (.tuple #[.float .f64 f,ev])∧vF ev)∧Keep w w'
theorem iz(s:ByteArray)(w:World)(hs:s.size≤100000)(hok:RealOk s)(hg:FG w)(hp:PT w)(hl:LT w):
  Calls prog 140 #[.string s,.int .i64 64] w (vA w):=by
 have HA:=Z (iy s w hs hok hg hp hl);clear hg hp hl hok;go_enter func140,ntmps140;go_wp2_with (go_at_call 159;refine HA.mono ?_;rintro e w' ⟨⟨f,n,ev,rfl,hev⟩,kk⟩)
 all_goals
  first
  |exact qh (results_tmp2 results140 _ _ _) rfl ⟨⟨_,_,rfl,.inr ⟨2,.inr rfl,rfl⟩⟩,kk⟩
  |exact qh (results_tmp2 results140 _ _ _) rfl ⟨⟨_,_,rfl,hev⟩,kk⟩
theorem eN(s:ByteArray)(w:World)(hs:s.size≤100000)(hok:RealOk s)(hg:FG w)(hp:PT w)(hl:LT w)(hsg:SG w):
  Calls prog 109 #[.string s,.int .i64 64] w (gW w):=by
 have HA:=Z (iz s w hs hok hg hp hl);have HS:=Z hsg;clear hg hp hl hok hsg;go_enter func109,ntmps109;go_wp2_with (go_at_call 140;refine HA.mono ?_;rintro e w2 ⟨⟨f,ev,rfl,hev⟩,kk⟩;refine Hid.out ?_);refine Z ?_;rcases hev with rfl|⟨k,hk,rfl⟩
 ·go_wp2_with fail;exact qh (results_tmp2 results109 _ _ _) rfl ⟨_,_,rfl,kk,.inl rfl⟩
 ·have HSK:=Z (HS.keep kk);have HK:=Z hk;clear hk;go_wp2_with (go_at_call 132;refine(dB _ s 0 64 k HK _ hs HSK).mono ?_;rintro e w3 ⟨N,rfl,k3⟩);exact qh (results_tmp2 results109 _ _ _) rfl ⟨_,_,rfl,kk.trans k3,.inr ⟨_,_,rfl⟩⟩
end Go.Proofs.YtnclklfhjbkjhaaGreatDoor
