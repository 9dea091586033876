/- Part of the proof: L6 L7 L8. -/
import Derived.Test.YtnclklfhjbkjhaaGreatDoorLa
set_option maxRecDepth 1000000
set_option maxHeartbeats 40000000
set_option linter.unusedSimpArgs false
namespace Go.Proofs.YtnclklfhjbkjhaaGreatDoor
open Tryz
open Go.RowKit Go.Lib
def gu(us:List Int):Array Value:=(us.map (Value.int .i32)).toArray
theorem sK{us:List Int}{j:Nat}(h:j<us.length):(gu us)[j]? =some (.int .i32 us[j]):=by
 unfold gu;simp[h]
theorem nh(us:List Int)(i:Nat)(c:Int):(gu us).setIfInBounds i (.int .i32 c)=gu (us.set i c):=by
 unfold gu;apply Array.ext';simp[List.map_set]
def fO(n:Nat)(R:List Int)(i:Nat):List Int:=R.take i++List.replicate (n-i) 0
theorem fk{n i:Nat}{R:List Int}(h:i≤R.length)(hn:i≤n):(fO n R i).length=n:=by
 unfold fO;rw[qk,List.length_take,List.length_replicate];omega
theorem pg{n i:Nat}{R:List Int}(h:i<R.length)(hn:i<n):(fO n R i).set i R[i]=fO n R (i+1):=by
 unfold fO;rw[List.set_append_right _ _ (by rw[List.length_take];omega)];have e1:i- (R.take i).length=0:=by rw[List.length_take];omega
 rw[e1,List.take_succ_eq_append_getElem h,qs];congr 1;rw[show n-i=(n- (i+1))+1 from by omega,List.replicate_succ];rfl
theorem mN{n i:Nat}{R:List Int}(h:i≤R.length):(fO n R i).take i=R.take i:=by
 unfold fO;rw[List.take_append_of_le_length (by rw[List.length_take];omega),List.take_of_length_le (by rw[List.length_take];omega)]
theorem lA{n i:Nat}{R:List Int}(h:Cp R):Cp (fO n R i):=by
 intro c hc;unfold fO at hc;rcases List.mem_append.1 hc with hc|hc
 ·exact h c (List.mem_of_mem_take hc)
 ·rw[(List.mem_replicate.1 hc).2];decide
theorem qP(l:List Int)(c:Int):aO (l++ [c])=aO l++enc c:=by simp[aO]
theorem fC{us:List Int}{j:Nat}(h:j<us.length):aO (us.take (j+1))=aO (us.take j) ++enc us[j]:=by
 rw[List.take_succ_eq_append_getElem h,qP]
theorem fB(us:List Int)(n j:Nat)(h:us.length=n)(hn:n≤8):(aO (us.take j)).length≤32:=by
 have h1:=ck (us.take j);have h2:(us.take j).length≤us.length:=List.length_take_le' _ _;omega
theorem BufSt.more{C:RC}{lx rr T d B b:Nat}{A:Nat→Prop}{ok:Bool}{R:List Int}{p pv:Ps}{l:List UInt8}{w w':World}(h:BufSt C lx rr A ok T d R p pv B b l w)(f:Keep w w')(g:Nat)(hg:w.heap.size≤g∧g<w'.heap.size)(ht:∀cs fz,w'.heap[g]? ≠some (.cells cs 5 fz)):BufSt C lx rr (fun k=>A k∨k=g) ok T d R p pv B b l w':=by
 have h':=h.keep f;refine⟨h.st.more f (fun k e=>?_) (.inl h.st.la),h'.buf,h.low,fun k e=>?_⟩
 ·rcases e with e|e
  ·exact .inl e
  ·exact .inr (by omega)
 ·rcases e with e|e
  ·exact h'.lowA k e
  ·subst e;have:=h.buf.lt;exact⟨by omega,fun cs fz _=>ht cs fz⟩
theorem BufSt.less{C:RC}{lx rr T d B b:Nat}{A A':Nat→Prop}{ok:Bool}{R:List Int}{p pv:Ps}{l:List UInt8}{w:World}(h:BufSt C lx rr A ok T d R p pv B b l w)(hA:∀k,A' k→A k)(hl:A' lx):BufSt C lx rr A' ok T d R p pv B b l w:=
 ⟨h.st.less hA hl,h.buf,h.low,fun k e=>h.lowA k (hA k e)⟩
theorem BufSt.row{C:RC}{lx rr T d B b g:Nat}{A:Nat→Prop}{ok:Bool}{R:List Int}{p pv:Ps}{l:List UInt8}{w w':World}{cs cs':Array Value}(h:BufSt C lx rr A ok T d R p pv B b l w)(f:Fr (· =g) w w')(hg:A g)(hne:g≠lx)(hb:w.heap[g]? =some (.cells cs 21 (0,0)))(hb':w'.heap[g]? =some (.cells cs' 21 (0,0))):BufSt C lx rr A ok T d R p pv B b l w':=by
 have hgb:=(h.lowA g hg).1;have hT:∀k cs,k=g→w.heap[k]? ≠some (.cells cs 174 (0,0)):=by
  intro k cs e;subst e;rw[hb];intro e;simp at e
 refine⟨h.st.fr f (fun k e=>?_) hT,tu h.buf f (fun e=>hgb e.symm) (fun k cs _ e e'=>?_),h.low,fun k e=>⟨(h.lowA k e).1,fun cs fz hk e'=>?_⟩⟩
 ·have e':k=g:=e;subst e';exact⟨hg,hne⟩
 ·have e'':k=g:=e';subst e'';rw[hb] at e;simp at e
 ·by_cases ek:k=g
  ·subst ek;rw[hb'] at e';simp at e'
  ·have hlt:=(h.st.ru.hA k e).2.2.2.2;rw[f.block k hlt ek] at e';exact(h.lowA k e).2 cs fz hk e'
theorem LxF.less'{C:RC}{lx g:Nat}{A:Nat→Prop}{k:Nat}(h:LxF C lx (fun k=>A k∨k=g) k):LxF C lx A k:=h.imp (fun h=>⟨h.1,fun a=>h.2 (.inl a)⟩) id
theorem pf{b:Nat}{s:List UInt8}{v:Int}(h:cG b s=some v): -2147483648≤v∧v<2147483648:=by
 unfold cG at h;split at h
 ·cases h
 ·rename_i c r;split at h
  ·cases e:bA b r with
   |none=>rw[e] at h;cases h
   |some n=>
    rw[e] at h;simp only[Option.bind_some] at h;split at h
    ·cases h;omega
    ·cases h
  ·split at h
   ·cases e:bA b r with
    |none=>rw[e] at h;cases h
    |some n=>
     rw[e] at h;simp only[Option.bind_some] at h;split at h
     ·cases h;omega
     ·cases h
   ·cases e:bA b (c::r) with
    |none=>rw[e] at h;cases h
    |some n=>
     rw[e] at h;simp only[Option.bind_some] at h;split at h
     ·cases h;omega
     ·cases h
def cq(c:Int)(n:Nat)(R:List Int):List UInt8:=if R.length<n then bsl++enc c++aO R else[]
def eF(c:Int)(big:Bool)(u:List Int):List UInt8:=match cG 16 (aO u) with
 |none=>bsl++enc c++aO u
 |some i=>if big∧(i>1114111∨i<0) then bsl++enc c++aO u else enc i
def iL(n:Nat)(R:List Int):List Int:=fO n R (min n R.length)
theorem j7(c:Int)(n:Nat)(big:Bool)(R:List Int):da c n big R=cq c n R++eF c big (iL n R):=by
 have e:iL n R=R.take n++List.replicate (n-R.length) 0:=by
  unfold iL fO;rcases Nat.le_total n R.length with h|h
  ·rw[Nat.min_eq_left h,show n-n=0 from by omega,show n-R.length=0 from by omega]
  ·rw[Nat.min_eq_right h,List.take_of_length_le qr,List.take_of_length_le h]
 unfold da cq eF;rw[e];rfl
theorem ea{c:Int}{big:Bool}{u:List Int}(h:cG 16 (aO u)=none∨big=true∧∃i,cG 16 (aO u)=some i∧(i>1114111∨i<0)):eF c big u=bsl++enc c++aO u:=by
 unfold eF;rcases h with h|⟨hb,i,h,hi⟩
 ·rw[h]
 ·rw[h];exact if_pos ⟨hb,hi⟩
theorem iN{c:Int}{big:Bool}{u:List Int}{i:Int}(h:cG 16 (aO u)=some i)(hb:big=false∨(0≤i∧i≤1114111)):eF c big u=enc i:=by
 unfold eF;rw[h];refine if_neg ?_;rintro⟨h1,h2⟩;rcases hb with hb|hb
 ·rw[hb] at h1;cases h1
 ·omega
def Pc68(c:Code)(lx B:Nat)(q:Value)(P P':(Nat→Value)→Prop)(w:World)(G:World→Prop):Prop:=
 ∀ (a:Act) (J K:Act→World→Prop) (Q:Exit→Act→World→Prop),Fr68 (fun u=>dh lx B q u∧P u) a→
  (∀a' wx,Fr68 (fun u=>dh lx B q u∧P' u) a'∧G wx→J a' wx)→(∀a' wx,Met J a' wx→K a' wx)→
  c.wp prog (Exit.then K Q) a w
noncomputable def qW(n:Nat):Code:=(Tryz.f68.body.bind (bx n)).getD .skip
structure RowU(lx g:Nat)(A:Nat→Prop)(us:List Int)(w:World):Prop where
 a:A g
 ne:g≠lx
 b:w.heap[g]? =some (.cells (gu us) 21 (0,0))
theorem RowU.fr{C:RC}{lx g:Nat}{A:Nat→Prop}{us:List Int}{w w':World}(h:RowU lx g A us w)(f:Fr (LxF C lx A) w w'):RowU lx g A us w':=⟨h.a,h.ne,f.blk (fun e=>e.elim (fun e=>e.2 h.a) h.ne) h.b⟩
theorem RowU.keep{lx g:Nat}{A:Nat→Prop}{us:List Int}{w w':World}(h:RowU lx g A us w)(f:Keep w w'):RowU lx g A us w':=⟨h.a,h.ne,Keep.blk f h.b⟩
theorem RowU.cell{lx g:Nat}{A:Nat→Prop}{us:List Int}{w:World}(h:RowU lx g A us w){j:Nat}(hj:j<us.length):w.cell? ⟨g,j,none⟩=some (.int .i32 us[j]):=by
 rw[ab h.b,sK hj]
theorem RowU.text{lx g:Nat}{A:Nat→Prop}{us:List Int}{w:World}(h:RowU lx g A us w)(hc:Cp us)(n:Nat)(hn:us.length=n):(convert 123 9 (.slice (some ⟨g,0,none⟩) n n)).run prog w= .ok (.string (runesBytes us)) w∧(runesBytes us).toList=aO us:=by
 subst hn;exact jH (fun j hj=>h.cell hj) fun c hc'=>(hc c hc').1
end Go.Proofs.YtnclklfhjbkjhaaGreatDoor
namespace Go.Proofs.YtnclklfhjbkjhaaGreatDoor
open Go.RowKit Go.Lib
theorem wl(C:RC)(lx rr T B:Nat)(A:Nat→Prop)(ok:Bool)(R:List Int)(p pv:Ps)(l:List UInt8)(q:Value)(w:World)(g:Nat)(us:List Int)
  (H:Hid (BufSt C lx rr A ok T 0 R p pv B B l w)) (HL:Hid (l.length≤900000100)) (HU:Hid (RowU lx g A us w)) (HC:Hid (Cp us)) (i:Nat) (hi:i≤4) (hn:us.length=4):
  Pc68 (qW 5) lx B q (fun u=>u 19= .slice (some ⟨g,0,none⟩) 4 4∧u 20= .int .i64 i∧u 23= .int .i64 0) (fun u=>u 19= .slice (some ⟨g,0,none⟩) 4 4) w (fun wx=>BufSt C lx rr A ok T 0 R p pv B B (l++aO (us.take i)) wx∧Fr (LxF C lx A) w wx):=by
 intro a J K Q HF hJ hK;obtain⟨u,⟨hs,h1,h2,h3⟩,rfl⟩:=HF;have HS:=Z hs;unfold bC;rw[hs.1,hs.2.2,h1,h2,h3];clear hs h1 h2 h3
 conv=>arg 2;whnf
 go_wp2_with fail;refine wp_loop_ghost_k (fun k a' w'=>∃j:Nat,k=i-j∧j≤i∧Fr68 (fun u=>dh lx B q u∧u 19= .slice (some ⟨g,0,none⟩) 4 4∧u 20= .int .i64 i∧u 23= .int .i64 j) a'∧BufSt C lx rr A ok T 0 R p pv B B (l++aO (us.take j)) w'∧Fr (LxF C lx A) w w') i ?_ ?_
 ·exact⟨0,rfl,Nat.zero_le _,Fr68.mk rfl rfl ⟨⟨rfl,HS.2.1,rfl⟩,rfl,rfl,rfl⟩,by simpa[aO] using H.out,Fr.refl _⟩
 ·rintro gk a' wr ⟨j,rfl,hj,⟨u,⟨hs,h1,h2,h3⟩,rfl⟩,hb,hf⟩ J2 K2 hJ2 hK2;have HS:=Z hs;have HB:=Z hb;have HF:=Z hf;have HU':=Z (HU.fr hf);unfold bC;rw[hs.1,hs.2.2,h1,h2,h3];clear hs h1 h2 h3 hb hf;by_cases hlt:j<i
  ·have hju:j<us.length:=by omega
   have hcell:=HU'.cell hju;have hcp:=HC us[j] (List.getElem_mem hju);have hls:=fB us 4 j hn (by omega);have hll:=HL.out;generalize hx:us[j]=x at*
   have HX:=Z hx;clear hx;go_wp2_with (go_at_call 99;refine(bJ x (by omega) (by omega) HB.out (by rw[qk];omega)).mono ?_;rintro e w5 ⟨⟨n5,rfl⟩,h5,f5⟩;have H5:=Z h5;have HF5:=Z (HF.trans f5);clear h5 f5);refine Handed.intro (i- (j+1)) (by omega) (hJ2 _ _ _ ⟨j+1,rfl,by omega,Fr68.mk rfl rfl ⟨⟨rfl,HS.2.1,rfl⟩,rfl,rfl,by go_num⟩,?_,HF5⟩);rw[fC hju,←qs,HX.out];exact H5.out
  ·obtain rfl:j=i:=by omega
   have hd:decide ((j:Int) < (j:Int))=false:=by simp
   go_wp2_with fail;exact Met.intro (hJ _ _ ⟨Fr68.mk rfl rfl ⟨⟨rfl,HS.2.1,rfl⟩,rfl⟩,HB,HF⟩)
theorem v_(C:RC)(lx rr T B:Nat)(A:Nat→Prop)(ok:Bool)(R:List Int)(p pv:Ps)(l:List UInt8)(q:Value)(w:World)(g:Nat)(us:List Int)
  (H:Hid (BufSt C lx rr A ok T 0 R p pv B B l w)) (HL:Hid (l.length≤900000100)) (HU:Hid (RowU lx g A us w)) (HC:Hid (Cp us)) (i:Nat) (hi:i≤8) (hn:us.length=8):
  Pc68 (qW 11) lx B q (fun u=>u 28= .slice (some ⟨g,0,none⟩) 8 8∧u 29= .int .i64 i∧u 32= .int .i64 0) (fun u=>u 28= .slice (some ⟨g,0,none⟩) 8 8) w (fun wx=>BufSt C lx rr A ok T 0 R p pv B B (l++aO (us.take i)) wx∧Fr (LxF C lx A) w wx):=by
 intro a J K Q HF hJ hK;obtain⟨u,⟨hs,h1,h2,h3⟩,rfl⟩:=HF;have HS:=Z hs;unfold bC;rw[hs.1,hs.2.2,h1,h2,h3];clear hs h1 h2 h3
 conv=>arg 2;whnf
 go_wp2_with fail;refine wp_loop_ghost_k (fun k a' w'=>∃j:Nat,k=i-j∧j≤i∧Fr68 (fun u=>dh lx B q u∧u 28= .slice (some ⟨g,0,none⟩) 8 8∧u 29= .int .i64 i∧u 32= .int .i64 j) a'∧BufSt C lx rr A ok T 0 R p pv B B (l++aO (us.take j)) w'∧Fr (LxF C lx A) w w') i ?_ ?_
 ·exact⟨0,rfl,Nat.zero_le _,Fr68.mk rfl rfl ⟨⟨rfl,HS.2.1,rfl⟩,rfl,rfl,rfl⟩,by simpa[aO] using H.out,Fr.refl _⟩
 ·rintro gk a' wr ⟨j,rfl,hj,⟨u,⟨hs,h1,h2,h3⟩,rfl⟩,hb,hf⟩ J2 K2 hJ2 hK2;have HS:=Z hs;have HB:=Z hb;have HF:=Z hf;have HU':=Z (HU.fr hf);unfold bC;rw[hs.1,hs.2.2,h1,h2,h3];clear hs h1 h2 h3 hb hf;by_cases hlt:j<i
  ·have hju:j<us.length:=by omega
   have hcell:=HU'.cell hju;have hcp:=HC us[j] (List.getElem_mem hju);have hls:=fB us 8 j hn (by omega);have hll:=HL.out;generalize hx:us[j]=x at*
   have HX:=Z hx;clear hx;go_wp2_with (go_at_call 99;refine(bJ x (by omega) (by omega) HB.out (by rw[qk];omega)).mono ?_;rintro e w5 ⟨⟨n5,rfl⟩,h5,f5⟩;have H5:=Z h5;have HF5:=Z (HF.trans f5);clear h5 f5);refine Handed.intro (i- (j+1)) (by omega) (hJ2 _ _ _ ⟨j+1,rfl,by omega,Fr68.mk rfl rfl ⟨⟨rfl,HS.2.1,rfl⟩,rfl,rfl,by go_num⟩,?_,HF5⟩);rw[fC hju,←qs,HX.out];exact H5.out
  ·obtain rfl:j=i:=by omega
   have hd:decide ((j:Int) < (j:Int))=false:=by simp
   go_wp2_with fail;exact Met.intro (hJ _ _ ⟨Fr68.mk rfl rfl ⟨⟨rfl,HS.2.1,rfl⟩,rfl⟩,HB,HF⟩)
end Go.Proofs.YtnclklfhjbkjhaaGreatDoor
namespace Go.Proofs.YtnclklfhjbkjhaaGreatDoor
open Tryz
open Go.RowKit Go.Lib
theorem Pc68.last{c:Code}{lx B:Nat}{q:Value}{P P':(Nat→Value)→Prop}{w:World}{G:World→Prop}{a:Act}{Q:Exit→Act→World→Prop}(h:Pc68 c lx B q P P' w G)(hF:Fr68 (fun u=>dh lx B q u∧P u) a)
  (hQ:∀a' wx,Fr68 (fun u=>dh lx B q u∧P' u) a'∧G wx→Q .normal a' wx):c.wp prog Q a w:=by
 refine wp_mono (h a (fun a' wx=>Fr68 (fun u=>dh lx B q u∧P' u) a'∧G wx) (fun a' wx=>Fr68 (fun u=>dh lx B q u∧P' u) a'∧G wx) (fun _ _ _=>False) hF (fun _ _ h=>h) (fun _ _ h=>h)) ?_;intro e a' wx hh;cases e<;>first|exact hQ _ _ hh|exact False.elim hh
theorem yq(C:RC)(lx rr T B:Nat)(A:Nat→Prop)(ok:Bool)(R:List Int)(p pv:Ps)(l:List UInt8)(q:Value)(w:World)(g:Nat)(us:List Int)
  (H:Hid (BufSt C lx rr A ok T 0 R p pv B B l w)) (HL:Hid (l.length≤900000100)) (HU:Hid (RowU lx g A us w)) (HC:Hid (Cp us)) (hn:us.length=4):
  Pc68 (qW 7) lx B q (fun u=>u 282= .slice (some ⟨g,0,none⟩) 4 4∧u 283= .int .i64 4∧u 284= .int .i64 0) (fun _=>True) w (fun wx=>BufSt C lx rr A ok T 0 R p pv B B (l++aO us) wx∧Fr (LxF C lx A) w wx):=by
 intro a J K Q HF hJ hK;obtain⟨u,⟨hs,h1,h2,h3⟩,rfl⟩:=HF;have HS:=Z hs;unfold bC;rw[hs.1,hs.2.2,h1,h2,h3];clear hs h1 h2 h3
 conv=>arg 2;whnf
 go_wp2_with fail;refine wp_loop_ghost_k (fun k a' w'=>∃j:Nat,k=4-j∧j≤4∧Fr68 (fun u=>dh lx B q u∧u 282= .slice (some ⟨g,0,none⟩) 4 4∧u 283= .int .i64 4∧u 284= .int .i64 j) a'∧BufSt C lx rr A ok T 0 R p pv B B (l++aO (us.take j)) w'∧Fr (LxF C lx A) w w') 4 ?_ ?_
 ·exact⟨0,rfl,Nat.zero_le _,Fr68.mk rfl rfl ⟨⟨rfl,HS.2.1,rfl⟩,rfl,rfl,rfl⟩,by simpa[aO] using H.out,Fr.refl _⟩
 ·rintro gk a' wr ⟨j,rfl,hj,⟨u,⟨hs,h1,h2,h3⟩,rfl⟩,hb,hf⟩ J2 K2 hJ2 hK2;have HS:=Z hs;have HB:=Z hb;have HF:=Z hf;have HU':=Z (HU.fr hf);unfold bC;rw[hs.1,hs.2.2,h1,h2,h3];clear hs h1 h2 h3 hb hf;by_cases hlt:j<4
  ·have hju:j<us.length:=by omega
   have hcell:=HU'.cell hju;have hcp:=HC us[j] (List.getElem_mem hju);have hls:=fB us 4 j hn (by omega);have hll:=HL.out;generalize hx:us[j]=x at*
   have HX:=Z hx;clear hx;go_wp2_with (go_at_call 99;refine(bJ x (by omega) (by omega) HB.out (by rw[qk];omega)).mono ?_;rintro e w5 ⟨⟨n5,rfl⟩,h5,f5⟩;have H5:=Z h5;have HF5:=Z (HF.trans f5);clear h5 f5);refine Handed.intro (4- (j+1)) (by omega) (hJ2 _ _ _ ⟨j+1,rfl,by omega,Fr68.mk rfl rfl ⟨⟨rfl,HS.2.1,rfl⟩,rfl,rfl,by go_num⟩,?_,HF5⟩);rw[fC hju,←qs,HX.out];exact H5.out
  ·obtain rfl:j=4:=by omega
   go_wp2_with fail;refine Met.intro (hJ _ _ ⟨Fr68.mk rfl rfl ⟨⟨rfl,HS.2.1,rfl⟩,trivial⟩,?_,HF⟩);have h:=HB.out
   rwa [List.take_of_length_le (Nat.le_of_eq hn)] at h
theorem wm(C:RC)(lx rr T B:Nat)(A:Nat→Prop)(ok:Bool)(R:List Int)(p pv:Ps)(l:List UInt8)(q:Value)(w:World)(g:Nat)(us:List Int)
  (H:Hid (BufSt C lx rr A ok T 0 R p pv B B l w)) (HL:Hid (l.length≤900000050)) (HU:Hid (RowU lx g A us w)) (HC:Hid (Cp us)) (hn:us.length=4) (HSG:Hid (SG w)):
  qZ (qT 79) lx B q (fun u=>u 19= .slice (some ⟨g,0,none⟩) 4 4) w (EscP C lx rr T B A p pv l ⟨eF 117 false us,R⟩ w):=by
 intro a J K Q HF hJ hK;obtain⟨u,⟨hs,h1⟩,rfl⟩:=HF;have HS:=Z hs;have hls:=HL.out;have hls9:l.length≤1000000000:=by omega
 have hcv:=(HU.text HC 4 hn).1;have HX:=Z (HU.text HC 4 hn).2;have hts:(runesBytes us).size≤100:=by
  rw[cM,HX.out];have:=ck us;omega
 generalize runesBytes us=t at*
 unfold bC;rw[hs.1,hs.2.2,h1];clear hs h1
 conv=>arg 2;whnf
 go_wp2_with first
  |(go_at_call 100;refine(dd t 16 (.inr rfl) _ (by omega) HSG).mono ?_;rintro e w2 ⟨v,ev,rfl,k2,(⟨hp,rfl⟩|⟨hp,T',a',rfl⟩)⟩<;>refine Hid.out ?_)
 ·refine Z ?_;have H2:=Z (H.keep k2);rw[HX.out] at hp;have hbd:=pf hp;have HP:=Z hp;have HF2:Hid (Fr (LxF C lx A) w w2):=Z ((Fr.refl w).keep k2);clear hp k2 hcv;obtain⟨hb1,hb2⟩:=hbd;have hw:=Go.IntWalk.wrap32_in v (by omega);go_wp2_with (go_at_call 99;refine(bJ v (by omega) (by omega) H2 hls9).mono ?_;rintro e w5 ⟨⟨n5,rfl⟩,h5,f5⟩;have H5:=Z h5;have HF5:=Z (HF2.trans f5);clear h5 f5);refine Met.intro (hJ _ _ ⟨Fr68.mk rfl rfl ⟨rfl,HS.2.1,rfl⟩,⟨⟨_,by rw[iN HP.out (.inl rfl)];exact H5.out⟩,HF5.out⟩⟩)
 ·refine Z ?_;have H2:=Z (H.keep k2);rw[HX.out] at hp;have HP:=Z hp;have HF2:Hid (Fr (LxF C lx A) w w2):=Z ((Fr.refl w).keep k2);clear hp k2 hcv;have hec:bsl++enc 117=(⟨#[92,117]⟩:ByteArray).toList:=by rw[qi];rfl
  have HEC:=Z hec;clear hec;go_upto_block 7 with(go_at_call 101;refine(ez ⟨#[92,117]⟩ H2 hls9 (by decide)).mono ?_;rintro e w5 ⟨⟨n5,rfl⟩,h5,f5⟩;have H5:=Z h5;have HF5:=Z (HF2.trans f5);clear h5 f5);refine(yq C lx rr T B A ok R p pv _ q w5 g us H5 (Z (by rw[qk,←HEC.out,qk,ba];have:=aI 117;omega)) (Z (HU.fr HF5.out)) HC hn).last (Fr68.mk rfl rfl ⟨⟨rfl,HS.2.1,rfl⟩,rfl,rfl,rfl⟩) ?_;rintro a' wc ⟨⟨u,⟨hs,-⟩,rfl⟩,h,f⟩;refine hK _ _ (Met.intro (hJ _ _ ⟨⟨u,hs,rfl⟩,⟨⟨ok,?_⟩,HF5.trans f⟩⟩));rw[ea (.inl HP.out),HEC.out,←qs];exact h
theorem rf(C:RC)(lx rr T B:Nat)(A:Nat→Prop)(ok:Bool)(R:List Int)(p pv:Ps)(l:List UInt8)(q:Value)(w:World)(g:Nat)(us:List Int)
  (H:Hid (BufSt C lx rr A ok T 0 R p pv B B l w)) (HL:Hid (l.length≤900000100)) (HU:Hid (RowU lx g A us w)) (HC:Hid (Cp us)) (hn:us.length=8):
  Pc68 (qW 13) lx B q (fun u=>u 345= .slice (some ⟨g,0,none⟩) 8 8∧u 346= .int .i64 8∧u 347= .int .i64 0) (fun _=>True) w (fun wx=>BufSt C lx rr A ok T 0 R p pv B B (l++aO us) wx∧Fr (LxF C lx A) w wx):=by
 intro a J K Q HF hJ hK;obtain⟨u,⟨hs,h1,h2,h3⟩,rfl⟩:=HF;have HS:=Z hs;unfold bC;rw[hs.1,hs.2.2,h1,h2,h3];clear hs h1 h2 h3
 conv=>arg 2;whnf
 go_wp2_with fail;refine wp_loop_ghost_k (fun k a' w'=>∃j:Nat,k=8-j∧j≤8∧Fr68 (fun u=>dh lx B q u∧u 345= .slice (some ⟨g,0,none⟩) 8 8∧u 346= .int .i64 8∧u 347= .int .i64 j) a'∧BufSt C lx rr A ok T 0 R p pv B B (l++aO (us.take j)) w'∧Fr (LxF C lx A) w w') 8 ?_ ?_
 ·exact⟨0,rfl,Nat.zero_le _,Fr68.mk rfl rfl ⟨⟨rfl,HS.2.1,rfl⟩,rfl,rfl,rfl⟩,by simpa[aO] using H.out,Fr.refl _⟩
 ·rintro gk a' wr ⟨j,rfl,hj,⟨u,⟨hs,h1,h2,h3⟩,rfl⟩,hb,hf⟩ J2 K2 hJ2 hK2;have HS:=Z hs;have HB:=Z hb;have HF:=Z hf;have HU':=Z (HU.fr hf);unfold bC;rw[hs.1,hs.2.2,h1,h2,h3];clear hs h1 h2 h3 hb hf;by_cases hlt:j<8
  ·have hju:j<us.length:=by omega
   have hcell:=HU'.cell hju;have hcp:=HC us[j] (List.getElem_mem hju);have hls:=fB us 8 j hn (by omega);have hll:=HL.out;generalize hx:us[j]=x at*
   have HX:=Z hx;clear hx;go_wp2_with (go_at_call 99;refine(bJ x (by omega) (by omega) HB.out (by rw[qk];omega)).mono ?_;rintro e w5 ⟨⟨n5,rfl⟩,h5,f5⟩;have H5:=Z h5;have HF5:=Z (HF.trans f5);clear h5 f5);refine Handed.intro (8- (j+1)) (by omega) (hJ2 _ _ _ ⟨j+1,rfl,by omega,Fr68.mk rfl rfl ⟨⟨rfl,HS.2.1,rfl⟩,rfl,rfl,by go_num⟩,?_,HF5⟩);rw[fC hju,←qs,HX.out];exact H5.out
  ·obtain rfl:j=8:=by omega
   go_wp2_with fail;refine Met.intro (hJ _ _ ⟨Fr68.mk rfl rfl ⟨⟨rfl,HS.2.1,rfl⟩,trivial⟩,?_,HF⟩);have h:=HB.out
   rwa [List.take_of_length_le (Nat.le_of_eq hn)] at h
theorem wg(C:RC)(lx rr T B:Nat)(A:Nat→Prop)(ok:Bool)(R:List Int)(p pv:Ps)(l:List UInt8)(q:Value)(w:World)(g:Nat)(us:List Int)
  (H:Hid (BufSt C lx rr A ok T 0 R p pv B B l w)) (HL:Hid (l.length≤900000050)) (HU:Hid (RowU lx g A us w)) (HC:Hid (Cp us)) (hn:us.length=8) (HSG:Hid (SG w)):
  qZ (qT 102) lx B q (fun u=>u 28= .slice (some ⟨g,0,none⟩) 8 8) w (EscP C lx rr T B A p pv l ⟨eF 85 true us,R⟩ w):=by
 intro a J K Q HF hJ hK;obtain⟨u,⟨hs,h1⟩,rfl⟩:=HF;have HS:=Z hs;have hls:=HL.out;have hls9:l.length≤1000000000:=by omega
 have hcv:=(HU.text HC 8 hn).1;have HX:=Z (HU.text HC 8 hn).2;have hts:(runesBytes us).size≤100:=by
  rw[cM,HX.out];have:=ck us;omega
 generalize runesBytes us=t at*
 unfold bC;rw[hs.1,hs.2.2,h1];clear hs h1
 conv=>arg 2;whnf
 go_wp2_with first
  |(go_at_call 100;refine(dd t 16 (.inr rfl) _ (by omega) HSG).mono ?_;rintro e w2 ⟨v,ev,rfl,k2,(⟨hp,rfl⟩|⟨hp,T',a',rfl⟩)⟩<;>refine Hid.out ?_)
 ·refine Z ?_;have H2:=Z (H.keep k2);rw[HX.out] at hp;have hbd:=pf hp;have HP:=Z hp;have HF2:Hid (Fr (LxF C lx A) w w2):=Z ((Fr.refl w).keep k2);clear hp k2 hcv;obtain⟨hb1,hb2⟩:=hbd;have hw:=Go.IntWalk.wrap32_in v (by omega);rcases(show v<0∨1114111<v∨(0≤v∧v≤1114111) by omega) with k|k|⟨k0,k1⟩
  ·have HK:=Z k;have hec:bsl++enc 85=(⟨#[92,85]⟩:ByteArray).toList:=by rw[qi];rfl
   have HEC:=Z hec;clear hec;go_upto_block 13 with(go_at_call 101;refine(ez ⟨#[92,85]⟩ H2 hls9 (by decide)).mono ?_;rintro e w5 ⟨⟨n5,rfl⟩,h5,f5⟩;have H5:=Z h5;have HF5:=Z (HF2.trans f5);clear h5 f5);refine(rf C lx rr T B A ok R p pv _ q w5 g us H5 (Z (by rw[qk,←HEC.out,qk,ba];have:=aI 85;omega)) (Z (HU.fr HF5.out)) HC hn).last (Fr68.mk rfl rfl ⟨⟨rfl,HS.2.1,rfl⟩,rfl,rfl,rfl⟩) ?_;rintro a' wc ⟨⟨u,⟨hs,-⟩,rfl⟩,h,f⟩;refine hK _ _ (Met.intro (hJ _ _ ⟨⟨u,hs,rfl⟩,⟨⟨ok,?_⟩,HF5.trans f⟩⟩));rw[ea (.inr ⟨rfl,v,HP.out,.inr HK.out⟩),HEC.out,←qs];exact h
  ·have HK:=Z k;have hec:bsl++enc 85=(⟨#[92,85]⟩:ByteArray).toList:=by rw[qi];rfl
   have HEC:=Z hec;clear hec;go_upto_block 13 with(go_at_call 101;refine(ez ⟨#[92,85]⟩ H2 hls9 (by decide)).mono ?_;rintro e w5 ⟨⟨n5,rfl⟩,h5,f5⟩;have H5:=Z h5;have HF5:=Z (HF2.trans f5);clear h5 f5);refine(rf C lx rr T B A ok R p pv _ q w5 g us H5 (Z (by rw[qk,←HEC.out,qk,ba];have:=aI 85;omega)) (Z (HU.fr HF5.out)) HC hn).last (Fr68.mk rfl rfl ⟨⟨rfl,HS.2.1,rfl⟩,rfl,rfl,rfl⟩) ?_;rintro a' wc ⟨⟨u,⟨hs,-⟩,rfl⟩,h,f⟩;refine hK _ _ (Met.intro (hJ _ _ ⟨⟨u,hs,rfl⟩,⟨⟨ok,?_⟩,HF5.trans f⟩⟩));rw[ea (.inr ⟨rfl,v,HP.out,.inl HK.out⟩),HEC.out,←qs];exact h
  ·have HK:=Z (And.intro k0 k1);go_wp2_with (go_at_call 99;refine(bJ v (by omega) (by omega) H2 hls9).mono ?_;rintro e w5 ⟨⟨n5,rfl⟩,h5,f5⟩;have H5:=Z h5;have HF5:=Z (HF2.trans f5);clear h5 f5);refine Met.intro (hJ _ _ ⟨Fr68.mk rfl rfl ⟨rfl,HS.2.1,rfl⟩,⟨⟨_,by rw[iN HP.out (.inr HK.out)];exact H5.out⟩,HF5.out⟩⟩)
 ·refine Z ?_;have H2:=Z (H.keep k2);rw[HX.out] at hp;have HP:=Z hp;have HF2:Hid (Fr (LxF C lx A) w w2):=Z ((Fr.refl w).keep k2);clear hp k2 hcv;have hec:bsl++enc 85=(⟨#[92,85]⟩:ByteArray).toList:=by rw[qi];rfl
  have HEC:=Z hec;clear hec;go_upto_block 13 with(go_at_call 101;refine(ez ⟨#[92,85]⟩ H2 hls9 (by decide)).mono ?_;rintro e w5 ⟨⟨n5,rfl⟩,h5,f5⟩;have H5:=Z h5;have HF5:=Z (HF2.trans f5);clear h5 f5);refine(rf C lx rr T B A ok R p pv _ q w5 g us H5 (Z (by rw[qk,←HEC.out,qk,ba];have:=aI 85;omega)) (Z (HU.fr HF5.out)) HC hn).last (Fr68.mk rfl rfl ⟨⟨rfl,HS.2.1,rfl⟩,rfl,rfl,rfl⟩) ?_;rintro a' wc ⟨⟨u,⟨hs,-⟩,rfl⟩,h,f⟩;refine hK _ _ (Met.intro (hJ _ _ ⟨⟨u,hs,rfl⟩,⟨⟨ok,?_⟩,HF5.trans f⟩⟩));rw[ea (.inl HP.out),HEC.out,←qs];exact h
end Go.Proofs.YtnclklfhjbkjhaaGreatDoor
