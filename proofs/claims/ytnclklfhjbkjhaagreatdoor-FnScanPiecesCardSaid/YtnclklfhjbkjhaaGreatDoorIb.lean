/- Part of the proof: I4 I5 I6 I7 I8 K17. -/
import Derived.Test.YtnclklfhjbkjhaaGreatDoorGf
import GoSem.PinnedTables
set_option maxRecDepth 1000000
set_option maxHeartbeats 40000000
set_option linter.unusedSimpArgs false
namespace Go.Proofs.YtnclklfhjbkjhaaGreatDoor
open Go.RowKit
structure DC(cs:Array Value)(l:List Nat)(dp:Int)(tr:Bool):Prop where
 size:cs.size=804
 nd:cs[800]? =some (.int .i64 (l.length:Int))
 dp:cs[801]? =some (.int .i64 dp)
 ng:cs[802]? =some (.bool false)
 tr:cs[803]? =some (.bool tr)
 any:∀i<800,∃c:Int,cs[i]? =some (.int .u8 c)∧0≤c∧c<256
 fig:∀i (h:i<l.length),cs[i]? =some (.int .u8 ((48+l[i]:Nat):Int))
 figs:gF l
 len:l.length≤800
theorem DC.setDp{cs:Array Value}{l:List Nat}{dp:Int}{tr:Bool}(h:DC cs l dp tr)(dp':Int):DC (cs.setIfInBounds 801 (.int .i64 dp')) l dp' tr:=by
 have hs:=h.size;refine⟨by simpa using h.size,?_,?_,?_,?_,?_,?_,h.figs,h.len⟩
 ·rw[qj (by decide)];exact h.nd
 ·rw[Array.getElem?_setIfInBounds_self_of_lt (by omega)]
 ·rw[qj (by decide)];exact h.ng
 ·rw[qj (by decide)];exact h.tr
 ·intro i hi;rw[qj (by omega)];exact h.any i hi
 ·intro i hi;have:=h.len;rw[qj (by omega)];exact h.fig i hi
theorem DC.setTr{cs:Array Value}{l:List Nat}{dp:Int}{tr:Bool}(h:DC cs l dp tr)(tr':Bool):DC (cs.setIfInBounds 803 (.bool tr')) l dp tr':=by
 have hs:=h.size;refine⟨by simpa using h.size,?_,?_,?_,?_,?_,?_,h.figs,h.len⟩
 ·rw[qj (by decide)];exact h.nd
 ·rw[qj (by decide)];exact h.dp
 ·rw[qj (by decide)];exact h.ng
 ·rw[Array.getElem?_setIfInBounds_self_of_lt (by omega)]
 ·intro i hi;rw[qj (by omega)];exact h.any i hi
 ·intro i hi;have:=h.len;rw[qj (by omega)];exact h.fig i hi
theorem DC.take{cs:Array Value}{l:List Nat}{dp:Int}{tr:Bool}(h:DC cs l dp tr)(n:Nat)(hn:n≤l.length):DC (cs.setIfInBounds 800 (.int .i64 (n:Int))) (l.take n) dp tr:=by
 have hs:=h.size;have hl:=h.len;have ht:(l.take n).length=n:=by simp[hn]
 refine⟨by simpa using h.size,?_,?_,?_,?_,?_,?_,fun d hd=>h.figs d (List.mem_of_mem_take hd),by omega⟩
 ·rw[Array.getElem?_setIfInBounds_self_of_lt (by omega),ht]
 ·rw[qj (by decide)];exact h.dp
 ·rw[qj (by decide)];exact h.ng
 ·rw[qj (by decide)];exact h.tr
 ·intro i hi;rw[qj (by omega)];exact h.any i hi
 ·intro i hi;rw[qj (by omega)];rw[List.getElem_take];exact h.fig i (by omega)
theorem DC.byte{cs:Array Value}{l:List Nat}{dp:Int}{tr:Bool}(h:DC cs l dp tr)(i:Nat)(hi:l.length≤i)(hi8:i<800)(c:Int)(h0:0≤c)(h1:c<256):DC (cs.setIfInBounds i (.int .u8 c)) l dp tr:=by
 have hs:=h.size;refine⟨by simpa using h.size,?_,?_,?_,?_,?_,?_,h.figs,h.len⟩
 ·rw[qj (by omega)];exact h.nd
 ·rw[qj (by omega)];exact h.dp
 ·rw[qj (by omega)];exact h.ng
 ·rw[qj (by omega)];exact h.tr
 ·intro j hj;by_cases e:i=j
  ·subst e;exact⟨c,by rw[Array.getElem?_setIfInBounds_self_of_lt (by omega)],h0,h1⟩
  ·rw[qj e];exact h.any j hj
 ·intro j hj;rw[qj (by omega)];exact h.fig j hj
theorem DC.push{cs:Array Value}{l:List Nat}{dp:Int}{tr:Bool}(h:DC cs l dp tr)(hl:l.length<800)(d:Nat)(hd:d<10):DC ((cs.setIfInBounds l.length (.int .u8 ((48+d:Nat):Int))).setIfInBounds 800 (.int .i64 ((l.length+1:Nat):Int))) (l++ [d]) dp tr:=by
 have hs:=h.size;have hb:=h.byte l.length qr hl ((48+d:Nat):Int) (by omega) (by omega);refine⟨by simpa using h.size,?_,?_,?_,?_,?_,?_,?_,by simp;omega⟩
 ·rw[Array.getElem?_setIfInBounds_self_of_lt (by simp;omega)];simp
 ·rw[qj (by decide)];exact hb.dp
 ·rw[qj (by decide)];exact hb.ng
 ·rw[qj (by decide)];exact hb.tr
 ·intro j hj;rw[qj (by omega)];exact hb.any j hj
 ·intro j hj;rw[qj (by simp at hj;omega)];by_cases e:j<l.length
  ·rw[List.getElem_append_left e];exact hb.fig j e
  ·have e':j=l.length:=by simp at hj;omega
   subst e';rw[Array.getElem?_setIfInBounds_self_of_lt (by omega)];simp
 ·intro x hx;rcases List.mem_append.1 hx with hx|hx
  ·exact h.figs x hx
  ·rw[List.mem_singleton.1 hx];exact hd
def DM(w:World)(b:Nat)(l:List Nat)(dp:Int)(tr:Bool):Prop:=∃cs,w.heap[b]? =some (.cells cs 263 (0,0))∧DC cs l dp tr
theorem DM.drew{w:World}{b:Nat}{l:List Nat}{dp:Int}{tr:Bool}(h:DM w b l dp tr):DM w.drew b l dp tr:=h
theorem DM.keep{w w':World}{b:Nat}{l:List Nat}{dp:Int}{tr:Bool}(h:DM w b l dp tr)(k:Keep w w'):DM w' b l dp tr:=by
 obtain⟨cs,h1,h2⟩:=h;exact⟨cs,Keep.blk k h1,h2⟩
theorem DM.setDp{w:World}{b:Nat}{l:List Nat}{dp:Int}{tr:Bool}(h:DM w b l dp tr)(dp':Int):DM (w.setCell ⟨b,801,none⟩ (.int .i64 dp')) b l dp' tr:=by
 obtain⟨cs,h1,h2⟩:=h;exact⟨_,ag h1 _ _,h2.setDp dp'⟩
theorem DM.setTr{w:World}{b:Nat}{l:List Nat}{dp:Int}{tr:Bool}(h:DM w b l dp tr)(tr':Bool):DM (w.setCell ⟨b,803,none⟩ (.bool tr')) b l dp tr':=by
 obtain⟨cs,h1,h2⟩:=h;exact⟨_,ag h1 _ _,h2.setTr tr'⟩
theorem DM.take{w:World}{b:Nat}{l:List Nat}{dp:Int}{tr:Bool}(h:DM w b l dp tr)(n:Nat)(hn:n≤l.length):DM (w.setCell ⟨b,800,none⟩ (.int .i64 (n:Int))) b (l.take n) dp tr:=by
 obtain⟨cs,h1,h2⟩:=h;exact⟨_,ag h1 _ _,h2.take n hn⟩
theorem DM.push{w:World}{b:Nat}{l:List Nat}{dp:Int}{tr:Bool}(h:DM w b l dp tr)(hl:l.length<800)(d:Nat)(hd:d<10):DM ((w.setCell ⟨b,l.length,none⟩ (.int .u8 ((48+d:Nat):Int))).setCell ⟨b,800,none⟩ (.int .i64 ((l.length+1:Nat):Int))) b (l++ [d]) dp tr:=by
 obtain⟨cs,h1,h2⟩:=h;exact⟨_,ag (ag h1 _ _) _ _,h2.push hl d hd⟩
theorem DM.facts{w:World}{b:Nat}{l:List Nat}{dp:Int}{tr:Bool}(h:DM w b l dp tr):
  w.cell? ⟨b,800,none⟩=some (.int .i64 (l.length:Int))∧w.cell? ⟨b,801,none⟩=some (.int .i64 dp)∧w.cell? ⟨b,802,none⟩=some (.bool false)∧w.cell? ⟨b,803,none⟩=some (.bool tr)∧(∀o,w.frozen? ⟨b,o,none⟩=false)∧(∀i (h:i<l.length),w.cell? ⟨b,i,none⟩=some (.int .u8 ((48+l[i]:Nat):Int)))∧l.length≤800:=by
 obtain⟨cs,h1,h2⟩:=h;refine⟨?_,?_,?_,?_,fun o=>ae h1 o,?_,h2.len⟩
 ·rw[ab h1];exact h2.nd
 ·rw[ab h1];exact h2.dp
 ·rw[ab h1];exact h2.ng
 ·rw[ab h1];exact h2.tr
 ·intro i hi;rw[ab h1];exact h2.fig i hi
end Go.Proofs.YtnclklfhjbkjhaaGreatDoor
namespace Go.Proofs.YtnclklfhjbkjhaaGreatDoor
open Tryz
open Go.RowKit
def wV(w:World)(b:Nat):Nat:=match w.cell? ⟨b,800,none⟩ with
 |some (.int _ i)=>i.toNat
 |_=>0
theorem pk{w:World}{b n:Nat}(h:w.cell? ⟨b,800,none⟩=some (.int .i64 (n:Int))):wV w b=n:=by
 simp[wV,h]
def PF(l:List Nat)(n:Nat):Prop:=∀a t,l=a::t→0<a→0<n
theorem vC(l:List Nat):PF l l.length:=fun a t e _=>by rw[e];simp
theorem vB{l:List Nat}{k d:Nat}{h:k< (l.take (k+1)).length}(e:(l.take (k+1))[k]'h=d)(hd:d=0):PF l k:=fun a t hl ha=>by
 rcases Nat.eq_zero_or_pos k with h0|h0
 ·subst h0 hl hd;simp at e;omega
 ·exact h0
theorem iO(b:Nat)(l:List Nat)(dp:Int)(tr:Bool)(w:World)(hd:DM w b l dp tr):
  Calls prog 213 #[.pointer (some ⟨b,0,none⟩)] w (fun en w'=>en= .returned (.tuple #[])∧Fr (· =b) w w'∧∃n dp',n≤l.length∧DM w' b (l.take n) dp' tr∧(dp'=dp∨n=0)∧PF l n):=by
 go_enter func213,ntmps213;go_step;go_step;go_cut [2] (fun _ wx=>Fr (· =b) w wx∧∃n,n≤l.length∧Hid (DM wx b (l.take n) dp tr)∧Hid (PF l n))
 case first=>
  go_wp2_with fail;go_loopw [2] (fun _ wr=>Fr (· =b) w wr∧∃n,n≤l.length∧Hid (DM wr b (l.take n) dp tr)∧Hid (PF l n)) (fun _ wr=>wV wr b)
  case atStart=>exact⟨Fr.refl _,l.length,Nat.le_refl _,Z (by rw[List.take_length];exact hd),Z (vC l)⟩
  case round=>
   obtain⟨hF,n,hn,HD,HP⟩:=hrel;obtain⟨f0,f1,-,-,ff,fd,fl⟩:=HD.facts;have HF:=Z hF;clear hF;have ht:(l.take n).length=n:=by simp[hn]
   rw[ht] at f0;by_cases h0:n=0
   ·subst h0;clear fd ff f1;go_wp2_with fail;go_region;go_wp2_with fail;go_meet;exact⟨HF.drew,0,Nat.zero_le _,Z HD.drew,HP⟩
   ·obtain⟨k,rfl⟩:∃k,n=k+1:=⟨n-1,by omega⟩;have f2:=fd k (by omega);have f0':wr.cell? ⟨b,800,none⟩=some (.int .i64 ((k:Int)+1)):=by rw[f0];simp
    have hk:(k:Int) <800:=by omega
    have hm:=pk f0;generalize hgd:(l.take (k+1))[k]'(by omega)=d at f2;have HQ:=Z fun e:d=0=>vB hgd e
    clear hgd;have ff8:=ff 800;clear fd ff f0 f1 fl ht h0;by_cases hd0:d=0
    ·subst hd0;go_wp2_with fail;go_region;go_wp2_with fail;have HN:DM (wr.setCell ⟨b,800,none⟩ (.int .i64 (k:Int))) b (l.take k) dp tr:=by
      have h:=HD.take k (by rw[List.length_take];omega)
      rwa [List.take_take,Nat.min_eq_left (Nat.le_succ k)] at h
     have hnd:=pk (show(wr.setCell ⟨b,800,none⟩ (.int .i64 (k:Int))).drew.cell? ⟨b,800,none⟩=some (.int .i64 (k:Int)) from by
      have h:=HN.facts.1
      rwa [show(l.take k).length=k by rw[List.length_take];omega] at h)
     refine⟨⟨(HF.setIn _ rfl).drew,k,by omega,Z HN.drew,Z (HQ (by trivial))⟩,?_⟩;rw[hnd,hm];exact Nat.lt_succ_self k
    ·have q:(((48+d:Nat):Int) ==48)=false:=bf (by omega);go_wp2_with fail;go_region;go_wp2_with fail;go_meet;exact⟨HF.drew,k+1,hn,Z HD.drew,HP⟩
 case rest=>
  obtain⟨hF,n,hn,HD,HP⟩:=hcut;obtain⟨f0,f1,-,-,ff,-,-⟩:=HD.facts;have ht:(l.take n).length=n:=by simp[hn]
  rw[ht] at f0;have ff1:=ff 801;have HF:=Z hF;clear hF ff;by_cases h0:n=0
  ·subst h0;go_wp2_with fail
   all_goals
    exact bodyPost_end (results_none results213 _ _ _) rfl ⟨rfl,HF.setIn _ rfl,0,0,Nat.zero_le _,HD.setDp 0,.inr rfl,HP⟩
  ·have q:((n:Int) ==0)=false:=bf (by omega);go_wp2_with fail
   all_goals
    exact bodyPost_end (results_none results213 _ _ _) rfl ⟨rfl,HF,n,dp,hn,HD,.inl rfl,HP⟩
def iG(s:ByteArray)(c:List Nat):Prop:=s.size=c.length∧∀i (h:i<c.length) (hk:i<s.size),((s[i]'hk).toNat:Int)=48+(c[i]:Int)
theorem lw{l c:List Nat}{i:Nat}(hl:i<l.length)(hc:i<c.length):bD (l.drop i) (c.drop i)=if l[i]=c[i] then bD (l.drop (i+1)) (c.drop (i+1)) else decide (l[i] <c[i]):=by
 rw[List.drop_eq_getElem_cons hl,List.drop_eq_getElem_cons hc];rfl
theorem ly{l c:List Nat}{i:Nat}(hl:¬i<l.length)(hc:i<c.length):bD (l.drop i) (c.drop i)=true:=by
 rw[List.drop_eq_nil_of_le (by omega),List.drop_eq_getElem_cons hc];rfl
theorem mJ{l c:List Nat}{i:Nat}(hc:¬i<c.length):bD (l.drop i) (c.drop i)=false:=by
 rw[show c.drop i=[] from List.drop_eq_nil_of_le (by omega)];cases l.drop i<;>rfl
theorem i6(b K:Nat)(l c:List Nat)(s:ByteArray)(w:World)(_hl:l.length≤800)(_hc:c.length≤800)(hs:iG s c)(hf:∀i (h:i<l.length),w.cell? ⟨b,i,none⟩=some (.int .u8 ((48+l[i]:Nat):Int))):
  Calls prog 212 #[.slice (some ⟨b,0,none⟩) l.length K,.string s] w (fun en w'=>en= .returned (.bool (bD l c))∧Keep w w'):=by
 have HS:=Z hs;have HFc:=Z hf;have hsz:=hs.1;clear hs hf;go_enter func212,ntmps212;go_wp2_with fail;go_loopw [4,5] (fun s4 s5 wr=>s4= .bool false∧Keep w wr∧∃i:Nat,s5= .int .i64 (i:Int)∧i≤c.length∧Hid (bD (l.drop i) (c.drop i)=bD l c)) (fun _ s5 _=>match s5 with| .int _ i=>c.length-i.toNat|_=>0)
 case atStart=>exact⟨rfl,Fr.refl _,0,rfl,Nat.zero_le _,Z rfl⟩
 case round=>
  obtain⟨rfl,hK,i,rfl,hi,HP⟩:=hrel;have HK:=Z hK;clear hK;have hi8:(i:Int)≤800:=by omega
  by_cases hic:i<c.length
  ·have hiz:(i:Int) < (s.size:Int):=by omega
   have his:i<s.size:=by omega
   by_cases hil:i<l.length
   ·have hilz:¬ (i:Int)≥(l.length:Int):=by omega
    have f:=Keep.cell HK (HFc i hil);have hy:=HS.2 i hic his;have hst:=lw hil hic;rw[HP.out] at hst;obtain⟨x,hx⟩:∃x,x=((48+l[i]:Nat):Int):=⟨_,rfl⟩;rw[←hx] at f;by_cases h1:l[i]=c[i]
    ·rw[if_pos h1] at hst;have HH:=Z hst.symm;have q:(x != ((s[i]'his).toNat:Int))=false:=by rw[hy,hx,h1];simp
     clear hst h1 hx hy;go_wp2_with fail;go_region;go_wp2_with fail;refine⟨⟨rfl,HK.drew,i+1,by simp,hic,HH⟩,?_⟩;simp only;omega
    ·rw[if_neg h1] at hst;have q:(x != ((s[i]'his).toNat:Int))=true:=by rw[hy,hx,bne_iff_ne];omega
     by_cases h2:l[i] <c[i]
     ·have hlt:x< ((s[i]'his).toNat:Int):=by rw[hy,hx];omega
      rw[decide_eq_true h2] at hst;clear h1 h2 hx hy;go_wp2_with fail;go_region;go_wp2_with fail;go_region;go_wp2_with fail;go_ret;exact⟨by first|rfl|(rw[hst];rfl)|(rw[hst];exact congrArg (fun z=>Ending.returned (Value.bool z)) (decide_eq_true hlt)),HK.drew.drew⟩
     ·have hlt:¬x< ((s[i]'his).toNat:Int):=by rw[hy,hx];omega
      rw[decide_eq_false h2] at hst;clear h1 h2 hx hy;go_wp2_with fail;go_region;go_wp2_with fail;go_region;go_wp2_with fail;go_ret;exact⟨by first|rfl|(rw[hst];rfl)|(rw[hst];exact congrArg (fun z=>Ending.returned (Value.bool z)) (decide_eq_false (Int.not_lt.2 hlt))),HK.drew.drew⟩
   ·have hilz:(i:Int)≥(l.length:Int):=by omega
    have hp:=ly hil hic;rw[HP.out] at hp;go_wp2_with fail;go_ret;exact⟨by first|rfl|(rw[hp];rfl),HK.out⟩
  ·have hiz:¬ (i:Int) < (s.size:Int):=by omega
   have hp:=mJ (l:=l) hic;rw[HP.out] at hp;go_wp2_with fail;go_ret;exact⟨by first|rfl|(rw[hp];rfl),HK.out⟩
def ya(en:Ending):Prop:=∃r:Bool,en= .returned (.bool r)
theorem mG(b:Nat)(l:List Nat)(dp:Int)(tr:Bool)(p:Int)(w:World)(hd:DM w b l dp tr):
  Calls prog 208 #[.pointer (some ⟨b,0,none⟩),.int .i64 p] w (fun en w'=>ya en∧Keep w w'):=by
 obtain⟨f0,-,-,f3,-,fd,fl⟩:=hd.facts;have HD:=Z fd;clear hd fd;go_enter func208,ntmps208;by_cases h0:p<0
 ·go_wp2_with fail
  all_goals
   exact qh (results_tmp results208 _ _ _) rfl ⟨⟨_,rfl⟩,Fr.refl _⟩
 by_cases h1:p≥(l.length:Int)
 ·go_wp2_with fail
  all_goals
   exact qh (results_tmp results208 _ _ _) rfl ⟨⟨_,rfl⟩,Fr.refl _⟩
 obtain⟨k,rfl⟩:=Int.eq_ofNat_of_zero_le (Int.not_lt.1 h0);have hk:k<l.length:=by omega
 have hk8:(k:Int) <800:=by omega
 have f:=HD k hk;obtain⟨x,hx⟩:∃x,x=((48+l[k]:Nat):Int):=⟨_,rfl⟩;rw[←hx] at f;clear hx;by_cases hk0:k=0
 ·subst hk0;go_wp2_with fail
  all_goals
   exact qh (results_tmp results208 _ _ _) rfl ⟨⟨_,rfl⟩,Fr.refl _⟩
 ·obtain⟨j,rfl⟩:∃j,k=j+1:=⟨k-1,by omega⟩;have f2:=HD j (by omega);obtain⟨y,hy⟩:∃y,y=((48+l[j]:Nat):Int):=⟨_,rfl⟩;rw[←hy] at f2;clear hy;go_wp2_with fail
  all_goals
   exact qh (results_tmp results208 _ _ _) rfl ⟨⟨_,rfl⟩,Fr.refl _⟩
theorem iW(b:Nat)(l:List Nat)(dp:Int)(tr:Bool)(w:World)(hd:DM w b l dp tr):
  Calls prog 199 #[.pointer (some ⟨b,0,none⟩)] w (fun en w'=>(∃u:Int,en= .returned (.int .u64 u))∧Keep w w'):=by
 have HD:=Z hd;obtain⟨-,f1,-,-,-,-,fl⟩:=hd.facts;clear hd;go_enter func199,ntmps199;by_cases h20:dp>20
 ·go_wp2_with fail
  all_goals
   exact qh (results_tmp results199 _ _ _) rfl ⟨⟨_,rfl⟩,Fr.refl _⟩
 obtain⟨f0,-,-,-,-,fd,-⟩:=HD.facts;have FD:=Z fd;clear fd;go_upto_block 0 with fail;go_cut [3,4] (fun s3 s4 wr=>wr=w∧∃ (k:Nat) (n:Int),s3= .int .i64 (k:Int)∧s4= .int .u64 n∧k≤20)
 case first=>
  go_wp2_with fail;go_loopw [3,4] (fun s3 s4 wr=>wr=w∧∃ (k:Nat) (n:Int),s3= .int .i64 (k:Int)∧s4= .int .u64 n∧k≤20) (fun s3 _ _=>match s3 with| .int _ i=>(20-i).toNat|_=>0)
  case atStart=>exact⟨rfl,0,0,rfl,rfl,by decide⟩
  case round=>
   obtain⟨rfl,k,n,rfl,rfl,hk⟩:=hrel;have hkz:(k:Int)≤20:=by omega
   by_cases h1:(k:Int) <dp
   ·by_cases h2:k<l.length
    ·have h2z:(k:Int) < (l.length:Int):=by omega
     have f:=FD k h2;obtain⟨x,hx⟩:∃x,x=((48+l[k]:Nat):Int):=⟨_,rfl⟩;rw[←hx] at f;clear hx;go_wp2_with fail;refine⟨⟨by trivial,k+1,_,by simp,rfl,by omega⟩,?_⟩;simp only;omega
    ·have h2z:¬ (k:Int) < (l.length:Int):=by omega
     go_wp2_with fail;go_meet;exact⟨rfl,k,n,rfl,rfl,hk⟩
   ·go_wp2_with fail;go_meet;exact⟨rfl,k,n,rfl,rfl,hk⟩
 case rest=>
  obtain⟨rfl,k,n,rfl,rfl,hk⟩:=hcut;go_step;go_upto_block 2 with fail;go_cut [3,4] (fun s3 s4 wr=>wr=wc∧∃ (k:Nat) (n:Int),s3= .int .i64 (k:Int)∧s4= .int .u64 n∧k≤20)
  case first=>
   go_wp2_with fail;go_loopw [3,4] (fun s3 s4 wr=>wr=wc∧∃ (k:Nat) (n:Int),s3= .int .i64 (k:Int)∧s4= .int .u64 n∧k≤20) (fun s3 _ _=>match s3 with| .int _ i=>(20-i).toNat|_=>0)
   case atStart=>exact⟨rfl,k,n,rfl,rfl,hk⟩
   case round=>
    obtain⟨rfl,j,m,rfl,rfl,hj⟩:=hrel;have hjz:(j:Int)≤20:=by omega
    by_cases h1:(j:Int) <dp
    ·go_wp2_with fail;refine⟨⟨by trivial,j+1,_,by simp,rfl,by omega⟩,?_⟩;simp only;omega
    ·go_wp2_with fail;go_meet;exact⟨rfl,j,m,rfl,rfl,hj⟩
  case rest=>
   obtain⟨rfl,j,m,rfl,rfl,hj⟩:=hcut;go_wp2_with (go_at_call 208;refine(mG b l dp tr dp _ HD).mono ?_;rintro e w2 ⟨⟨r,rfl⟩,kk⟩)
   all_goals
    exact qh (results_tmp results199 _ _ _) rfl ⟨⟨_,rfl⟩,kk⟩
end Go.Proofs.YtnclklfhjbkjhaaGreatDoor
namespace Go.Proofs.YtnclklfhjbkjhaaGreatDoor
open Go.RowKit
def e8(l:List UInt8):List Nat:=l.map fun b=>b.toNat-48
def ph(k:Nat)(x:Nat×List UInt8):Bool:=
 x.2.all (fun b=>decide (48≤b.toNat∧b.toNat<58)) &&decide (dv (e8 x.2)=5^k) &&decide (x.2.length+x.1=k+1) &&decide (10^ (x.1-1)≤2^k) &&decide (2^k<10^x.1) &&decide (0<x.1)
theorem qS:(List.range 60).all (fun i=>match Go.Pinned.cheatRows[i+1]? with|some x=>ph (i+1) x|none=>false)=true:=by kernel_rfl
theorem qR{k:Nat}(h1:1≤k)(h2:k≤60):∃x,Go.Pinned.cheatRows[k]? =some x∧ph k x=true:=by
 have h:=List.all_eq_true.1 qS (k-1) (by simp;omega);rw[show k-1+1=k by omega] at h;cases hx:Go.Pinned.cheatRows[k]? with
 |none=>rw[hx] at h;cases h
 |some x=>rw[hx] at h;exact⟨x,rfl,h⟩
theorem wJ{k:Nat}{x:Nat×List UInt8}(h:ph k x=true):iG ⟨x.2.toArray⟩ (e8 x.2)∧Cheat k x.1 (e8 x.2):=by
 unfold ph at h;simp only[Bool.and_eq_true,decide_eq_true_eq,List.all_eq_true] at h;obtain⟨⟨⟨⟨⟨h1,h2⟩,h3⟩,h4⟩,h5⟩,h6⟩:=h;have hl:(e8 x.2).length=x.2.length:=by simp[e8]
 refine⟨⟨by rw[hl];rfl,fun i hi hi'=>?_⟩,⟨fun d hd=>?_,h2,by rw[hl];exact h3,h4,h5,h6⟩⟩
 ·have hi2:i<x.2.length:=by rw[←hl];exact hi
  have e1:(e8 x.2)[i]=x.2[i].toNat-48:=by simp[e8]
  have e2:((⟨x.2.toArray⟩:ByteArray)[i]'hi')=x.2[i]:=by
   show x.2.toArray[i]=x.2[i];simp
  have h7:=h1 x.2[i] (List.getElem_mem hi2);rw[e1,e2];omega
 ·unfold e8 at hd;rw[List.mem_map] at hd;obtain⟨b,hb,rfl⟩:=hd;have:=h1 b hb;omega
end Go.Proofs.YtnclklfhjbkjhaaGreatDoor
