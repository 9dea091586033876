/- Part of the proof: B4. -/
import Derived.Test.YtnclklfhjbkjhaaGreatDoorAc
import Derived.Laws.IdiomStrings
set_option maxRecDepth 1000000
set_option maxHeartbeats 40000000
set_option linter.unusedSimpArgs false
namespace Go.Proofs.YtnclklfhjbkjhaaGreatDoor
open Tryz
open Go.RowKit
theorem lY(x:Nat)(w:World):(callFunc 110 #[.float .f64 x]).run prog w= .ok (.value (.int .u64 x)) w:=by kernel_rfl
theorem uY(x:Int)(w:World):(callFunc 185 #[.int .u64 x]).run prog w= .ok (.value (.float .f64 x.toNat)) w:=by kernel_rfl
theorem me(x y:Nat)(w:World):Calls prog 168 #[.float .f64 x,.float .f64 y] w fun e w'=>(∃z,e= .returned (.float .f64 z))∧w=w':=by
 have hb:=lY;have hf:=uY;go_enter func168,ntmps168;go_wp2;go_ret;exact⟨⟨_,rfl⟩,rfl⟩
def RB(e:Ending):Prop:=∃b,e= .returned (.bool b)
theorem yW(w:World)(n:Int):(convert 117 9 (.slice (some ⟨w.heap.size,0,none⟩) 1 1)).run prog (w.alloc (.cells #[.int .u8 n] 5))= .ok (.string ⟨#[UInt8.ofNat n.toNat]⟩) (w.alloc (.cells #[.int .u8 n] 5)):=by
 rw[run_convert_bytes_string _ 117 9 5 _ _ _ underlying117 underlying5 underlying9];have hl:=run_loadCells_list (P:=prog) (w.alloc (.cells #[.int .u8 n] 5)) ⟨w.heap.size,0,none⟩ (([n]).map (Value.int .u8)) (fun j v hj=>by
  match j,hj with
  |0,hj=>
   have e:v= .int .u8 n:=by simpa using hj.symm
   rw[e,cF];exact ab (ql w _) 0)
 simp only[List.length_map] at hl;have:=run_bytesToString (P:=prog) (w.alloc (.cells #[.int .u8 n] 5)) ⟨w.heap.size,0,none⟩ 1 1 [n] hl;rw[this];rfl
theorem jY(s:ByteArray)(hs:s.size≤100000)(w:World):Calls prog 169 #[.string s] w fun e w'=>RB e∧Keep w w':=by
 have kc:=yW;go_enter func169,ntmps169;go_wp2_with fail;go_loopw [3,8] (fun u v wr=>∃ (i:Nat) (t:ByteArray),u= .string t∧v= .int .i64 i∧i≤s.size∧t.size=i∧Keep w wr) (fun _ v _=>match v with| .int _ n=>s.size-n.toNat|_=>0)
 case atStart=>exact⟨0,_,rfl,rfl,Nat.zero_le _,rfl,Fr.refl _⟩
 case round=>
  obtain⟨i,t,rfl,rfl,hi,ht,K⟩:=hrel;by_cases hl:i<s.size
  ·have h1:(i:Int) < (s.size:Int):=by omega
   have h2:¬9223372036854775807<t.size+1:=by omega
   have q:s[i]? =some s[i]:=by simp[hl]
   go_wp2_with fail
   all_goals
    go_roundw
    case rel=>exact⟨i+1,_,rfl,by rw[Int.natCast_add];rfl,hl,by rw[cV,ht];rfl,by repeat(first|exact K|with_reducible apply Fr.drew|with_reducible apply Fr.alloc)⟩
    case measure=>simp;omega
  ·have h1:¬ (i:Int) < (s.size:Int):=by omega
   have:i=s.size:=by omega
   subst this;go_wp2_with fail
   all_goals
    go_ret;exact⟨⟨_,rfl⟩,K⟩
theorem uD(c:PC)(at_:Nat)(mild:Bool)(w:World)(h:PSt c at_ mild w)(hm:aH (tk c.ts at_) ⟨#[45]⟩=true)(hk:(tk c.ts (at_+1)).kind=2):
  Calls prog 161 #[.pointer (some ⟨c.bp,0,none⟩)] w (NPost c at_ mild w (kS c at_)):=by
 have E0:=Z (Env.start h);have HM:=Z hm;have h1:at_+1<c.ts.length:=by
  have h2:=h.lt;have h3:=c.fin;by_cases e:at_=c.ts.length-1
  ·rw[←e] at h3;exact absurd h3 (bH hm)
  ·omega
 have g1:((at_:Int)+1) < (c.ts.length:Int):=by omega
 have g0:(0:Int)≤(at_:Int)+1:=by omega
 have hsz:=Z (c.sz (at_+1));obtain⟨hb,hbt,hat,hsm,c0,c1,-,-,-,-,-,-,-,-,-,-⟩:=h.facts;have d0:w.cell? ⟨c.bt,(at_+1) *5,none⟩=some (.int .i64 (tk c.ts (at_+1)).kind):=h.toks (at_+1) h1 0 _ rfl;have d1:w.cell? ⟨c.bt,(at_+1) *5+1,none⟩=some (.string (tk c.ts (at_+1)).raw):=h.toks (at_+1) h1 1 _ rfl;have d2:w.cell? ⟨c.bt,(at_+1) *5+2,none⟩=some (.string (tk c.ts (at_+1)).val):=h.toks (at_+1) h1 2 _ rfl;have d3:w.cell? ⟨c.bt,(at_+1) *5+3,none⟩=some (.int .u64 (tk c.ts (at_+1)).num):=h.toks (at_+1) h1 3 _ rfl;have d4:w.cell? ⟨c.bt,(at_+1) *5+4,none⟩=some (.int .i64 (tk c.ts (at_+1)).item):=h.toks (at_+1) h1 4 _ rfl;clear h hm h1;generalize ht:tk c.ts (at_+1)=t at*
 obtain⟨k,raw,val,num,item⟩:=t;have HT:=Z ht;clear ht;dsimp only at*
 subst hk;go_enter func161,ntmps161;go_wp2_with fail;go_region;have E1:=Z ((E0.allocZ).keep (((Fr.refl _).alloc (.cells #[.int .i64 2,.string raw,.string val,.int .u64 num,.int .i64 item] 48)).drew));clear c0 c1 d0 d1 d2 d3 d4;go_wp2_with fail;refine nC (ct c at_ mild _ E1.st) E1 (fun _ _ p=>?_) (fun w2 at2 k2 f2 l2 t2 n2 ka2 kn2 kc2 HG2 HL2 E3=>?_)
 ·go_wp2_with fail;exact⟨rfl,.inr p⟩
 go_wp2_with (refine aw E3.z1 rfl rfl rfl ?_);exact aS E3 HL2 HG2 rfl rfl rfl
theorem uB(c:PC)(at_:Nat)(mild:Bool)(w:World)(h:PSt c at_ mild w)(hm:aH (tk c.ts at_) ⟨#[45]⟩=true)(hk:(tk c.ts (at_+1)).kind=1):
  Calls prog 161 #[.pointer (some ⟨c.bp,0,none⟩)] w (NPost c at_ mild w (kS c at_)):=by
 have E0:=Z (Env.start h);have HM:=Z hm;have h1:at_+1<c.ts.length:=by
  have h2:=h.lt;have h3:=c.fin;by_cases e:at_=c.ts.length-1
  ·rw[←e] at h3;exact absurd h3 (bH hm)
  ·omega
 have g1:((at_:Int)+1) < (c.ts.length:Int):=by omega
 have g0:(0:Int)≤(at_:Int)+1:=by omega
 have hsz:=Z (c.sz (at_+1));obtain⟨hb,hbt,hat,hsm,c0,c1,-,-,-,-,-,-,-,-,-,-⟩:=h.facts;have d0:w.cell? ⟨c.bt,(at_+1) *5,none⟩=some (.int .i64 (tk c.ts (at_+1)).kind):=h.toks (at_+1) h1 0 _ rfl;have d1:w.cell? ⟨c.bt,(at_+1) *5+1,none⟩=some (.string (tk c.ts (at_+1)).raw):=h.toks (at_+1) h1 1 _ rfl;have d2:w.cell? ⟨c.bt,(at_+1) *5+2,none⟩=some (.string (tk c.ts (at_+1)).val):=h.toks (at_+1) h1 2 _ rfl;have d3:w.cell? ⟨c.bt,(at_+1) *5+3,none⟩=some (.int .u64 (tk c.ts (at_+1)).num):=h.toks (at_+1) h1 3 _ rfl;have d4:w.cell? ⟨c.bt,(at_+1) *5+4,none⟩=some (.int .i64 (tk c.ts (at_+1)).item):=h.toks (at_+1) h1 4 _ rfl;clear h hm h1;generalize ht:tk c.ts (at_+1)=t at*
 obtain⟨k,raw,val,num,item⟩:=t;have HT:=Z ht;clear ht;dsimp only at*
 subst hk;go_enter func161,ntmps161;go_wp2_with fail;go_region;have E1:=Z ((E0.allocZ).keep (((Fr.refl _).alloc (.cells #[.int .i64 1,.string raw,.string val,.int .u64 num,.int .i64 item] 48)).drew));clear c0 c1 d0 d1 d2 d3 d4;go_wp2_with fail;refine(jY raw hsz.out.1 _).mono ?_;rintro e wb ⟨⟨b,rfl⟩,kk⟩;have E2:=Z (E1.keep kk);clear kk;cases b
 ·go_wp2_with fail;refine(bh c at_ mild _ E2.st).mono ?_;rintro e wq ⟨ch,rfl,hS,F⟩;go_wp2_with fail;exact⟨rfl,.inr (E2.pan ⟨ch,rfl,hS,F⟩)⟩
 ·go_wp2_with fail;refine(ap c at_ mild _ E2.st).mono ?_;rintro e wq ⟨ch,rfl,hS,F⟩;go_wp2_with fail;exact⟨rfl,.inr (E2.pan ⟨ch,rfl,hS,F⟩)⟩
theorem uC(c:PC)(at_:Nat)(mild:Bool)(w:World)(h:PSt c at_ mild w)(hm:aH (tk c.ts at_) ⟨#[45]⟩=true)(h1:(tk c.ts (at_+1)).kind≠1)(h2:(tk c.ts (at_+1)).kind≠2)(h3:(tk c.ts (at_+1)).kind≠3):
  Calls prog 161 #[.pointer (some ⟨c.bp,0,none⟩)] w (NPost c at_ mild w (kS c at_)):=by
 have E0:=Z (Env.start h);have HM:=Z hm;have hx1:at_+1<c.ts.length:=by
  have h2:=h.lt;have h3:=c.fin;by_cases e:at_=c.ts.length-1
  ·rw[←e] at h3;exact absurd h3 (bH hm)
  ·omega
 have g1:((at_:Int)+1) < (c.ts.length:Int):=by omega
 have g0:(0:Int)≤(at_:Int)+1:=by omega
 have hsz:=Z (c.sz (at_+1));obtain⟨hb,hbt,hat,hsm,c0,c1,-,-,-,-,-,-,-,-,-,-⟩:=h.facts;have d0:w.cell? ⟨c.bt,(at_+1) *5,none⟩=some (.int .i64 (tk c.ts (at_+1)).kind):=h.toks (at_+1) hx1 0 _ rfl;have d1:w.cell? ⟨c.bt,(at_+1) *5+1,none⟩=some (.string (tk c.ts (at_+1)).raw):=h.toks (at_+1) hx1 1 _ rfl;have d2:w.cell? ⟨c.bt,(at_+1) *5+2,none⟩=some (.string (tk c.ts (at_+1)).val):=h.toks (at_+1) hx1 2 _ rfl;have d3:w.cell? ⟨c.bt,(at_+1) *5+3,none⟩=some (.int .u64 (tk c.ts (at_+1)).num):=h.toks (at_+1) hx1 3 _ rfl;have d4:w.cell? ⟨c.bt,(at_+1) *5+4,none⟩=some (.int .i64 (tk c.ts (at_+1)).item):=h.toks (at_+1) hx1 4 _ rfl;clear h hm hx1;generalize ht:tk c.ts (at_+1)=t at*
 obtain⟨k,raw,val,num,item⟩:=t;have HT:=Z ht;clear ht;dsimp only at*
 have k1:(k==1)=false:=by simp[h1]
 have k2:(k==2)=false:=by simp[h2]
 have k3:(k==3)=false:=by simp[h3]
 clear h1 h2 h3;go_enter func161,ntmps161;go_wp2_with fail;go_region;have E1:=Z ((E0.allocZ).keep (((Fr.refl _).alloc (.cells #[.int .i64 k,.string raw,.string val,.int .u64 num,.int .i64 item] 48)).drew));clear c0 c1 d0 d1 d2 d3 d4;go_wp2_with fail;refine(bh c at_ mild _ E1.st).mono ?_;rintro e wq ⟨ch,rfl,hS,F⟩;go_wp2_with fail;exact⟨rfl,.inr (E1.pan ⟨ch,rfl,hS,F⟩)⟩
theorem uE(c:PC)(at_:Nat)(mild:Bool)(w:World)(h:PSt c at_ mild w)(hm:aH (tk c.ts at_) ⟨#[45]⟩=true)(hk:(tk c.ts (at_+1)).kind=3):
  Calls prog 161 #[.pointer (some ⟨c.bp,0,none⟩)] w (NPost c at_ mild w (kS c at_)):=by
 have E0:=Z (Env.start h);have HM:=Z hm;have h1:at_+1<c.ts.length:=by
  have h2:=h.lt;have h3:=c.fin;by_cases e:at_=c.ts.length-1
  ·rw[←e] at h3;exact absurd h3 (bH hm)
  ·omega
 have g1:((at_:Int)+1) < (c.ts.length:Int):=by omega
 have g0:(0:Int)≤(at_:Int)+1:=by omega
 have hsz:=Z (c.sz (at_+1));obtain⟨hb,hbt,hat,hsm,c0,c1,-,-,-,-,-,-,-,-,-,-⟩:=h.facts;have d0:w.cell? ⟨c.bt,(at_+1) *5,none⟩=some (.int .i64 (tk c.ts (at_+1)).kind):=h.toks (at_+1) h1 0 _ rfl;have d1:w.cell? ⟨c.bt,(at_+1) *5+1,none⟩=some (.string (tk c.ts (at_+1)).raw):=h.toks (at_+1) h1 1 _ rfl;have d2:w.cell? ⟨c.bt,(at_+1) *5+2,none⟩=some (.string (tk c.ts (at_+1)).val):=h.toks (at_+1) h1 2 _ rfl;have d3:w.cell? ⟨c.bt,(at_+1) *5+3,none⟩=some (.int .u64 (tk c.ts (at_+1)).num):=h.toks (at_+1) h1 3 _ rfl;have d4:w.cell? ⟨c.bt,(at_+1) *5+4,none⟩=some (.int .i64 (tk c.ts (at_+1)).item):=h.toks (at_+1) h1 4 _ rfl;clear h hm h1;generalize ht:tk c.ts (at_+1)=t at*
 obtain⟨k,raw,val,num,item⟩:=t;have HT:=Z ht;clear ht;dsimp only at*
 subst hk;go_enter func161,ntmps161;go_wp2_with fail;go_region;have E1:=Z ((E0.allocZ).keep (((Fr.refl _).alloc (.cells #[.int .i64 3,.string raw,.string val,.int .u64 num,.int .i64 item] 48)).drew));clear c0 c1 d0 d1 d2 d3 d4;go_wp2_with fail;refine nC (ak c _ at_ mild _ E1.st) E1 (fun _ _ p=>?_) (fun w3 at3 k3 f3 l3 t3 n3 ka3 kn3 kc3 HG3 HL3 y=>?_)
 ·go_wp2_with fail;exact⟨rfl,.inr p⟩
 have LT3:=Z (af y.out.z1);have E2:=Z (y.out.alloc #[.int .i64 k3,.int .i64 f3,.int .i64 l3,.string t3,.int .u64 n3,.slice ka3 kn3 kc3]);clear y;go_wp2_with fail;refine(bm c 36 at3 mild _ E2.st (by rw[HG3.1,HT.out];simp)).mono ?_;rintro e w4 (⟨at4,k4,f4,l4,t4,n4,ka4,kn4,kc4,rfl,hP,F,hlt,hG⟩|⟨ch,rfl,hS,F⟩);rotate_left
 ·go_wp2_with fail;exact⟨rfl,.inr (E2.pan ⟨ch,rfl,hS,F⟩)⟩
 have HG4:=Z hG;have HL4:=Z hlt;have LT4:=Z (af (E2.call hP F).z2);have E3:=Z ((E2.call hP F).alloc #[.int .i64 k4,.int .i64 f4,.int .i64 l4,.string t4,.int .u64 n4,.slice ka4 kn4 kc4]);clear hP F hG hlt;go_wp2_with (first|(refine cE E3.z2 rfl ?_)|(refine cE E3.z1 rfl ?_)|(refine bs2 rfl rfl ?_;refine Hid.out ?_));refine Z ?_;have E5:=Z (E3.addNew [Nd.mk k3 f3 l3 t3 n3 ka3 kn3 kc3,Nd.mk k4 f4 l4 t4 n4 ka4 kn4 kc4] #[.int .i64 k3,.int .i64 f3,.int .i64 l3,.string t3,.int .u64 n3,.slice ka3 kn3 kc3,.int .i64 k4,.int .i64 f4,.int .i64 l4,.string t4,.int .u64 n4,.slice ka4 kn4 kc4] rfl (by simp));have E5:=E5.out;rw[World.size_alloc] at E5;have E5:=Z E5;go_wp2_with fail;refine(node_any w.heap.size 37 (.slice (some ⟨w4.heap.size+1,0,none⟩) 2 2) [Nd.mk k3 f3 l3 t3 n3 ka3 kn3 kc3,Nd.mk k4 f4 l4 t4 n4 ka4 kn4 kc4] _ E5.k1 (by simp) (by simp)).mono ?_;rintro e wb ⟨rfl,kk⟩;have E6:=Z ((E5.keep kk).dropK.alloc #[.int .i64 0,.int .i64 0,.int .i64 0,.string ⟨#[]⟩,.int .u64 0,.slice none 0 0]);clear kk;have E7:=Z (E6.set0 #[.int .i64 37,.int .i64 f3,.int .i64 l4,.string ⟨#[]⟩,.int .u64 0,.slice (some ⟨w4.heap.size+1,0,none⟩) 2 2]);go_wp2_with (refine aw E6.z1 rfl rfl rfl ?_;refine Hid.out ?_);refine Z ?_;go_wp2_with fail;refine aG (fun x0=>Hid (Env c at4 mild w [(wb.heap.size,#[.int .i64 37,.int .i64 f3,.int .i64 l4,.string ⟨#[]⟩,.int .u64 0,.slice (some ⟨w4.heap.size+1,0,none⟩) 2 2]),(w4.heap.size,#[.int .i64 k4,.int .i64 f4,.int .i64 l4,.string t4,.int .u64 n4,.slice ka4 kn4 kc4]),(w3.heap.size,#[.int .i64 k3,.int .i64 f3,.int .i64 l3,.string t3,.int .u64 n3,.slice ka3 kn3 kc3]),(w.heap.size,#[.int .i64 0,.int .i64 0,.int .i64 0,.string ⟨#[]⟩,.int .u64 0,.slice none 0 0])] [] x0)) E7 ?_;intro x0 X0;generalize wb.heap.size=b7 at*
 have q4:x0.drew.cell? ⟨w4.heap.size,4,none⟩=some (.int .u64 n4):=ab X0.z2 4;have q7:x0.drew.cell? ⟨b7,4,none⟩=some (.int .u64 0):=ab X0.z1 4;have r7:x0.drew.frozen? ⟨b7,4,none⟩=false:=ae X0.z1 4;have ne:w4.heap.size≠b7:=fun e=>(List.pairwise_cons.1 X0.pw).1 (w4.heap.size,_) List.mem_cons_self e.symm
 have hb:=lY;go_region_held2 (fun w'=>w'.cell? ⟨w4.heap.size,4,none⟩=some (.int .u64 n4))
  (first|with_reducible exact q4|exact nF q4 ne)
  (first|(go_at_call 168;refine(me _ _ _).mono ?_;rintro e w' ⟨⟨z,rfl⟩,rfl⟩))
 have st4:∀u,x0.setCell ⟨b7,4,none⟩ (.int .u64 u)=x0.setRow b7 #[.int .i64 37,.int .i64 f3,.int .i64 l4,.string ⟨#[]⟩,.int .u64 u,.slice (some ⟨w4.heap.size+1,0,none⟩) 2 2]:=fun u=>by
  rw[setCell_eq_setRow x0 b7 4 _ 26 (0,0) _ X0.z1];rfl
 have E8:∀u,Hid (Env c at4 mild w [(b7,#[.int .i64 37,.int .i64 f3,.int .i64 l4,.string ⟨#[]⟩,.int .u64 u,.slice (some ⟨w4.heap.size+1,0,none⟩) 2 2]),(w4.heap.size,#[.int .i64 k4,.int .i64 f4,.int .i64 l4,.string t4,.int .u64 n4,.slice ka4 kn4 kc4]),(w3.heap.size,#[.int .i64 k3,.int .i64 f3,.int .i64 l3,.string t3,.int .u64 n3,.slice ka3 kn3 kc3]),(w.heap.size,#[.int .i64 0,.int .i64 0,.int .i64 0,.string ⟨#[]⟩,.int .u64 0,.slice none 0 0])] [] (x0.setCell ⟨b7,4,none⟩ (.int .u64 u)).drew):=fun u=>Z (by rw[st4];exact(X0.set0 _).keep ((Fr.refl _).drew))
 clear q4 q7 r7 ne hb st4 X0;go_wp2_with (first|(refine cE (E8 _).out.z1 rfl ?_)|(refine aw (E8 _).out.z4 rfl rfl rfl ?_));refine qh (aN rfl (setRow_heap _ _ _ _ _ _ (E8 _).out.z4) rfl) rfl ?_;exact .inl ⟨at4,_,_,_,_,_,_,_,_,rfl,((E8 _).out.fin qr _).1,((E8 _).out.fin qr _).2,by have:=HL3.out;have:=HL4.out;omega,kD (by have:=(E8 0).out.st.lt;omega) HG3.1 HG3.2.1 HG4.1 (.inr (by rw[HG3.1,HT.out]))⟩
theorem qF(c:PC)(at_:Nat)(mild:Bool)(w:World)(h:PSt c at_ mild w)(hm:aH (tk c.ts at_) ⟨#[45]⟩=true):
  Calls prog 161 #[.pointer (some ⟨c.bp,0,none⟩)] w (NPost c at_ mild w (kS c at_)):=by
 by_cases h1:(tk c.ts (at_+1)).kind=1
 ·exact uB c at_ mild w h hm h1
 by_cases h2:(tk c.ts (at_+1)).kind=2
 ·exact uD c at_ mild w h hm h2
 by_cases h3:(tk c.ts (at_+1)).kind=3
 ·exact uE c at_ mild w h hm h3
 exact uC c at_ mild w h hm h1 h2 h3
theorem rD(c:PC)(at_:Nat)(mild:Bool)(w:World)(h:PSt c at_ mild w)(h1:(tk c.ts at_).kind≠1)(h2:(tk c.ts at_).kind≠2)(h3:(tk c.ts at_).kind≠3)(h4:(tk c.ts at_).kind≠4):
  Calls prog 144 #[.pointer (some ⟨c.bp,0,none⟩)] w (NPost c at_ mild w (kS c at_)):=by
 have E0:=Z (Env.start h);obtain⟨hb,hbt,hat,hsm,c0,c1,-,-,-,-,-,d0,d1,d2,d3,d4⟩:=h.facts;clear h;generalize ht:tk c.ts at_=t at*
 obtain⟨k,raw,val,num,item⟩:=t;have HT:=Z ht;clear ht;dsimp only at*
 have k1:(k==1)=false:=by simp[h1]
 have k2:(k==2)=false:=by simp[h2]
 have k3:(k==3)=false:=by simp[h3]
 have k4:(k==4)=false:=by simp[h4]
 clear h1 h2 h3 h4;go_enter func144,ntmps144;go_wp2_with fail;go_region;have E1:=Z ((E0.allocZ).keep (((Fr.refl _).alloc (.cells #[.int .i64 k,.string raw,.string val,.int .u64 num,.int .i64 item] 48)).drew));clear c0 c1 d0 d1 d2 d3 d4;go_wp2_with fail;refine bO E1 (fun wa E2=>?_);cases hq:aH (tk c.ts at_) {data:=#[45]}
 ·go_wp2_with fail;refine(bh c at_ mild _ E2.st).mono ?_;rintro e wq ⟨ch,rfl,hS,F⟩;go_wp2_with fail;exact⟨rfl,.inr (E2.pan ⟨ch,rfl,hS,F⟩)⟩
 ·have HQ:=Z hq;clear hq;go_wp2_with fail;refine nC (qF c at_ mild _ E2.st HQ) E2 (fun _ _ p=>?_) (fun w2 at2 k2 f2 l2 t2 n2 ka2 kn2 kc2 HG2 HL2 E3=>?_)
  ·go_wp2_with fail;exact⟨rfl,.inr p⟩
  go_wp2_with (refine aw E3.z1 rfl rfl rfl ?_);exact aS E3 HL2 HG2 rfl rfl rfl
theorem fK(c:PC)(at_:Nat)(mild:Bool)(w:World)(h:PSt c at_ mild w):
  Calls prog 144 #[.pointer (some ⟨c.bp,0,none⟩)] w (NPost c at_ mild w (kS c at_)):=by
 by_cases h1:(tk c.ts at_).kind=1
 ·cases e1:((tk c.ts at_).raw.toList== [116,114,117,101])
  ·cases e2:((tk c.ts at_).raw.toList== [102,97,108,115,101])
   ·exact qg c at_ mild w h h1 e1 e2
   ·exact qt c at_ mild w h h1 e1 e2
  ·exact qu c at_ mild w h h1 e1
 by_cases h2:(tk c.ts at_).kind=2
 ·exact rF c at_ mild w h h2
 by_cases h3:(tk c.ts at_).kind=3
 ·exact rG c at_ mild w h h3
 by_cases h4:(tk c.ts at_).kind=4
 ·exact rE c at_ mild w h h4
 exact rD c at_ mild w h h1 h2 h3 h4
end Go.Proofs.YtnclklfhjbkjhaaGreatDoor
