/- Part of the proof: D6 D7. -/
import Derived.Test.YtnclklfhjbkjhaaGreatDoorDc
import Derived.Deep.RegionHeld2
import Derived.Deep.RegionWith
import Derived.IntWalk
import Derived.Deep.CutRange
import Derived.Deep.DeepCutAuto
set_option maxRecDepth 1000000
set_option maxHeartbeats 40000000
set_option linter.unusedSimpArgs false
namespace Go.Proofs.YtnclklfhjbkjhaaGreatDoor
open Go.RowKit Go.Lib
theorem jp{b:Nat}(h:¬b<128):firstT b≠240:=by
 unfold firstT;rw[if_neg h]
 repeat' split
 all_goals decide
theorem gD{l:List UInt8}(h:l≠[]):1≤(ex l).2∧(ex l).2≤l.length:=by
 unfold ex;rw[if_neg h];have hl:1≤l.length:=by cases l with|nil=>exact absurd rfl h|cons=>simp
 generalize l.length=n at*
 unfold nE;split
 ·exact⟨Nat.le_refl _,hl⟩
 ·split
  ·exact⟨Nat.le_refl _,hl⟩
  ·rename_i h1 h2;generalize bt l 0=b0 at*
   have h4:=jp h1;unfold slowN;rcases firstT_cases b0 with h3|h3|h3|h3|h3|h3|h3|h3|h3
   ·exact absurd h3 h4
   ·exact absurd h3 h2
   all_goals
    rw[h3]
    repeat' split
    all_goals(simp only;omega)
def bj(l:List UInt8):List Int:=
 if _h:l=[] then[] else((ex l).1:Int) ::bj (l.drop (ex l).2)
termination_by l.length
decreasing_by
 have:=gD (by assumption);rw[List.length_drop];omega
theorem dj:bj []=[]:=by rw[bj];simp
theorem fL{l:List UInt8}(h:l≠[]):bj l=((ex l).1:Int) ::bj (l.drop (ex l).2):=by rw[bj,dif_neg h]
theorem jF{p q:List UInt8}{i:Nat}(h:i<p.length):bt (p++q) i=bt p i:=by
 unfold bt;rw[List.getD_eq_getElem?_getD,List.getD_eq_getElem?_getD,List.getElem?_append_left h]
theorem tp{p q:List UInt8}(h:gO p=true):ex (p++q)=ex p:=by
 have hp:p≠[]:=by intro e;subst e;simp[gO] at h
 have hpos:0<p.length:=by cases p with|nil=>exact absurd rfl hp|cons=>simp
 unfold gO at h;rw[if_neg hp] at h;unfold ex;rw[if_neg hp,if_neg (by simp[hp])];have e0:bt (p++q) 0=bt p 0:=jF hpos;have e1:1<p.length→bt (p++q) 1=bt p 1:=fun h=>jF h
 have e2:2<p.length→bt (p++q) 2=bt p 2:=fun h=>jF h
 have e3:3<p.length→bt (p++q) 3=bt p 3:=fun h=>jF h
 rw[e0];rw[qk];generalize q.length=m;generalize p.length=n at*
 generalize bt (p++q) 1=c1 at*
 generalize bt (p++q) 2=c2 at*
 generalize bt (p++q) 3=c3 at*
 generalize bt p 1=b1 at*
 generalize bt p 2=b2 at*
 generalize bt p 3=b3 at*
 generalize bt p 0=b0 at*
 unfold nE;split
 ·rfl
 ·split
  ·rfl
  ·unfold no at h;simp only[Bool.or_eq_true,Bool.and_eq_true,decide_eq_true_eq] at h;rename_i hb0 hb1;unfold slowN;rcases firstT_cases b0 with h3|h3|h3|h3|h3|h3|h3|h3|h3<;>rw[h3] at h ⊢ <;>simp only[accLo,accHi,Nat.reduceMod,Nat.reduceDiv,Nat.reduceEqDiff,if_true,if_false] at h ⊢
   ·exact absurd h3 (jp hb0)
   ·exact absurd h3 hb1
   all_goals
    by_cases n1:1<n
    ·have q1:=e1 n1;subst q1;by_cases n2:2<n
     ·have q2:=e2 n2;subst q2;by_cases n3:3<n
      ·have q3:=e3 n3;subst q3
       repeat' split
       all_goals first|rfl|(exfalso;omega)
      ·repeat' split
       all_goals first|rfl|(exfalso;omega)
     ·repeat' split
      all_goals first|rfl|(exfalso;omega)
    ·exfalso;omega
theorem qK{p:List UInt8}(h:4≤p.length)(hb:bt p 0<240):gO p=true:=by
 have hp:p≠[]:=by intro e;subst e;simp at h
 unfold gO no;rw[if_neg hp];have:firstT (bt p 0) %8≤p.length:=by
  rcases jr hb with h3|h3|h3|h3|h3|h3<;>rw[h3]<;>omega
 simp[this]
def RdB(C:RC)(B:List UInt8)(w:World):Prop:=∃r e buf tx ev,BR C r e buf tx ev w∧buf++tx.toList=B
def nM(C:RC)(B:List UInt8)(w:World)(e:Ending)(w':World):Prop:=
 Fr (RS C) w w'∧((B=[]∧RdB C [] w'∧∃ev,ErrV C ev w'∧e= .returned (.tuple #[.int .i32 0,.int .i64 0,ev]))∨
  (B≠[]∧RdB C (B.drop (ex B).2) w'∧e= .returned (.tuple #[.int .i32 (ex B).1,.int .i64 (ex B).2,.nilIface])))
theorem RdB.keep{C:RC}{B:List UInt8}{w w':World}(h:RdB C B w)(k:Keep w w'):RdB C B w':=by
 obtain⟨r,e,buf,tx,ev,h1,h2⟩:=h;exact⟨r,e,buf,tx,ev,h1.keep k,h2⟩
theorem BR.bytes{C:RC}{r e:Nat}{buf:List UInt8}{tx:ByteArray}{ev:Value}{w:World}(h:BR C r e buf tx ev w):eB w C.kb r buf:=by
 obtain⟨K,hK,hK2⟩:=h.kblk;intro i hi;have h1:(az buf)[i]? =some (.int .u8 (bt buf i)):=by
  unfold az bt;rw[List.getElem?_map,List.getD_eq_getElem?_getD,List.getElem?_eq_getElem hi];rfl
 rw[←hK2,List.getElem?_take,if_pos hi,List.getElem?_drop] at h1;rw[ab hK.1];simpa using h1
end Go.Proofs.YtnclklfhjbkjhaaGreatDoor
namespace Go.Proofs.YtnclklfhjbkjhaaGreatDoor
open Tryz
open Go.RowKit Go.Lib
theorem BR.store'{C:RC}{r e r' e':Nat}{buf buf':List UInt8}{tx:ByteArray}{ev ev':Value}{w w':World}(h:BR C r e buf tx ev w)
  (hb:∃lb ls:Int,w'.heap[C.bb]? =some (.cells #[.slice (some ⟨C.kb,0,none⟩) 4096 4096,.iface 66 (.pointer (some ⟨C.pb,0,none⟩)),.int .i64 r',.int .i64 e',ev',.int .i64 lb,.int .i64 ls] 153 (0,0)))
  (f:Fr (· =C.bb) w w') (hk:∃K,oU C w K∧(K.drop r').take buf'.length=az buf') (hl:e'=r'+buf'.length) (hf:e'≤4096) (he:ev'= .nilIface∨(tx.size=0∧ErrV C ev' w)):BR C r' e' buf' tx ev' w':=by
 obtain⟨K,hK,hK2⟩:=hk;obtain⟨cv,hp,hc⟩:=h.pblk;exact⟨hb,⟨K,⟨f.blk (fun e=>C.n1 e.symm) hK.1,hK.2⟩,hK2⟩,⟨cv,f.blk (fun e=>C.n2 e.symm) hp,hc.keep (f.mono fun _ _ h=> .inl h)⟩,hl,hf,h.sz,he.imp id fun x=>⟨x.1,x.2.fr f fun k cs hk=>h.tag k cs hk⟩,h.glob.fr (f.mono fun _ _ h=> .inl h)⟩
theorem Fr.drewN'{S:Nat→Prop}{a w:World}(h:Fr S a w)(n:Nat):Fr S a (w.drewN n):=⟨h.os,h.tape,h.output,h.size,h.block⟩
theorem ErrV.form{C:RC}{v:Value}{w:World}(h:ErrV C v w):∃b,v= .iface 172 (.pointer (some b)):=by
 rcases h with⟨-,b,-,-,h⟩|⟨-,h⟩
 ·exact⟨_,h⟩
 ·exact⟨_,h⟩
theorem eL(C:RC)(r e:Nat)(buf:List UInt8)(tx:ByteArray)(ev:Value)(w:World)(h:BR C r e buf tx ev w):
  Calls prog 94 #[.pointer (some ⟨C.bb,0,none⟩)] w fun e' w'=>e'= .returned ev∧BR C r e buf tx .nilIface w'∧Fr (· =C.bb) w w':=by
 obtain⟨b1,b2,b3,c0,c1,c2,c3,c4,f2,f3,f4,f5,f6⟩:=h.facts;have HR:=Z h;clear h;go_enter func94,ntmps94;go_wp2_with fail;go_ret;obtain⟨lb,ls,hbb⟩:=HR.bblk;have hf:Fr (· =C.bb) w (w.setCell ⟨C.bb,4,none⟩ .nilIface):=(Fr.refl w).setIn _ rfl;exact⟨rfl,HR.store' ⟨lb,ls,by rw[ag hbb];simp⟩ hf HR.kblk HR.len HR.fit (.inl rfl),hf⟩
def mV(C:RC)(w:World):Nat:=match w.cell? ⟨C.pb,0,none⟩,w.cell? ⟨C.bb,4,none⟩ with
 |some (.string t),some .nilIface=>t.size+1
 |_,_=>0
theorem tf{e r n q dn:Nat}(h:e=r+n)(hq:r+dn=q+1)(hd:dn≤n):e=q+1+(n-dn):=by omega
theorem kE{C:RC}{r e:Nat}{buf:List UInt8}{tx:ByteArray}{w:World}(h:BR C r e buf tx .nilIface w):mV C w=tx.size+1:=by
 obtain⟨b1,b2,b3,c0,c1,c2,c3,c4,f2,f3,f4,f5,f6⟩:=h.facts;obtain⟨cv,hp,hc⟩:=h.pblk;have p0:w.cell? ⟨C.pb,0,none⟩=some (.string tx):=ab hp 0;unfold mV;rw[p0,c4]
theorem sw{C:RC}{r e:Nat}{buf:List UInt8}{tx:ByteArray}{ev:Value}{w:World}(h:BR C r e buf tx ev w)(hn:ev≠ .nilIface):mV C w=0:=by
 obtain⟨b1,b2,b3,c0,c1,c2,c3,c4,f2,f3,f4,f5,f6⟩:=h.facts;obtain⟨cv,hp,hc⟩:=h.pblk;have p0:w.cell? ⟨C.pb,0,none⟩=some (.string tx):=ab hp 0;rcases h.err with he|he
 ·exact absurd he hn
 ·obtain⟨b,hb⟩:=he.2.form;subst hb;unfold mV;rw[p0,c4]
theorem lq(C:RC)(B:List UInt8)(w:World)(h:RdB C B w)(hB:∀i,bt B i<240)(fill:∀r e buf tx w,BR C r e buf tx .nilIface w→buf.length<4096→Calls prog 93 #[.pointer (some ⟨C.bb,0,none⟩)] w fun e w'=>e= .returned (.tuple #[])∧Fr (RS C) w w'∧∃n buf' tx' ev',BR C 0 n buf' tx' ev' w'∧buf'++tx'.toList=buf++tx.toList∧(ev'≠ .nilIface∨tx'.size<tx.size)):
  Calls prog 96 #[.pointer (some ⟨C.bb,0,none⟩)] w (nM C B w):=by
 obtain⟨r0,e0,buf0,tx0,ev0,h,hb0⟩:=h;have HR0:=Z h;have HF:=Z fill;clear h fill;have hn1:=C.n1;have hn2:=C.n2;have hn3:=C.n3;go_enter func96,ntmps96;go_wp2_with fail;go_loopw [] (fun wr=>∃r e buf tx ev,Hid (BR C r e buf tx ev wr∧buf++tx.toList=B∧Fr (RS C) w wr)) (fun wr=>mV C wr)
 case atStart=>exact⟨r0,e0,buf0,tx0,ev0,Z ⟨HR0,hb0,Fr.refl w⟩⟩
 case round=>
  obtain⟨r,e,buf,tx,ev,HX⟩:=hrel;obtain⟨b1,b2,b3,c0,c1,c2,c3,c4,f2,f3,f4,f5,f6⟩:=HX.1.facts;have hl:=HX.1.len;have hfit:=HX.1.fit;have hr1:(r:Int)≤(e:Int):=by omega
  have hr2:(e:Int)≤4096:=by omega
  have hr3:(r:Int)≤4096:=by omega
  have HL:=Z hl;have HFIT:=Z hfit;have hb0':bt buf 0<240:=by
   have h1:=hB 0;rw[←HX.2.1] at h1;by_cases he:buf=[]
   ·subst he;decide
   ·rw[jF (by cases buf with|nil=>exact absurd rfl he|cons=>simp)] at h1;exact h1
  have HB0:=Z hb0';have hw4:IntKind.i64.wrap ((r:Int)+4)=(r:Int)+4:=IntWalk.i64_in _ (by omega);clear hl hfit hb0';go_wp2_with fail;go_cut [55] (fun u wx=>∃b:Bool,u= .bool b∧Hid (Keep wr wx∧(b=true→gO buf=false∧ev= .nilIface∧buf.length<4)∧(b=false→gO buf=true∨ev≠ .nilIface)))
  case first=>
   by_cases hA:r+4>e
   ·have g1:decide ((r:Int)+4> (e:Int))=true:=by simp;omega
    have g1':decide ((e:Int) < (r:Int)+4)=true:=by simp;omega
    have hsub:(e:Int) - (r:Int) <4096:=by omega
    have hsub':decide ((e:Int) - (r:Int) <4096)=true:=by simp;omega
    have hFR:∀ (o:Nat) (w':World),eB w' C.kb o buf→Utf8Tabs 7 8 w'→Calls prog 126 #[.slice (some ⟨C.kb,o,none⟩) (e-r) (4096-r)] w' fun e' w''=>e'= .returned (.bool (gO buf))∧Keep w' w'':=by
     intro o w' h1 h2;have:=lW C.kb o (4096-r) buf w' h1 h2 HB0 (by have:=HL.out;have:=HFIT.out;omega)
     rwa [show buf.length=e-r from by have:=HL.out;omega] at this
    have hws:IntKind.i64.wrap ((e:Int) - (r:Int))=(e:Int) - (r:Int):=IntWalk.i64_in _ (by omega);have HFR:=Z hFR;clear hFR;have y0:wr.drew.cell? ⟨C.bb,0,none⟩=some (.slice (some ⟨C.kb,0,none⟩) 4096 4096):=c0;have y2:wr.drew.cell? ⟨C.bb,2,none⟩=some (.int .i64 r):=c2;have y3:wr.drew.cell? ⟨C.bb,3,none⟩=some (.int .i64 e):=c3;have y4:wr.drew.cell? ⟨C.bb,4,none⟩=some ev:=c4;by_cases hne4:4096=r
    ·have hq:e=4096:=by omega
     have hbe:buf=[]:=List.eq_nil_of_length_eq_zero (by have:=HL.out;omega);have hfull:gO buf=false:=by rw[hbe];rfl
     have hby:eB wr.drew C.kb 0 buf:=by rw[hbe];intro i hi;cases hi
     subst hne4;subst hq;rcases HX.1.err with he|he
     ·subst he;refine wp_region_held_drew (S:=(fun w'=>w'.cell? ⟨C.bb,0,none⟩=some (.slice (some ⟨C.kb,0,none⟩) 4096 4096)∧w'.cell? ⟨C.bb,2,none⟩=some (.int .i64 4096)∧w'.cell? ⟨C.bb,3,none⟩=some (.int .i64 4096)∧w'.cell? ⟨C.bb,4,none⟩=some .nilIface)) (by kernel_rfl) ⟨y0,y2,y3,y4⟩ (fun hHeld=>?_)
      iterate 24
       refine dP (v:=?_) 0 rfl rfl (by kernel_rfl) (by rfl) (fun _ _ _ h=>h) ?_ hHeld ?_;rotate_left
       ·intro w hSw
        (try dsimp only at hSw)
        go_simp
        try with_reducible rfl
       try simp only[qa,qb,qc,Act.put,qd,qe,qf]
      refine wpAnyH_ready (rs:=[24]) (by kernel_rfl) (by simp) ?_;refine AllReadyH.cons rfl (fun K hK=>?_) AllReadyH.nil;go_simp;go_wp2_with (go_at_call 126;refine(HFR.out 0 wr.drew hby HX.1.glob.tabs).mono ?_;rw[hfull];rintro e' w6 ⟨rfl,k6⟩);refine hK.out _ _ ⟨Keep.cell k6 y0,Keep.cell k6 y2,Keep.cell k6 y3,Keep.cell k6 y4⟩ (fun hHeld=>?_);clear hK K
      try simp only[qa,qb,qc,Act.put,qd,qe,qf]
      iterate 26
       refine dP (v:=?_) 25 rfl rfl (by kernel_rfl) (by rfl) (fun _ _ _ h=>h) ?_ hHeld ?_;rotate_left
       ·intro w hSw
        (try dsimp only at hSw)
        go_simp
        try with_reducible rfl
       try simp only[qa,qb,qc,Act.put,qd,qe,qf]
      refine wpAnyH_done (by kernel_rfl) ?_ _;go_wp2_with fail;go_meet;exact⟨true,rfl,⟨((Fr.refl wr).drew).trans k6,fun _=>⟨hfull,by first|trivial|rfl,by have:=HL.out;omega⟩,fun h=>by cases h⟩⟩
     ·obtain⟨b,hb⟩:=he.2.form;subst hb;refine wp_region_held_drew (S:=(fun w'=>w'.cell? ⟨C.bb,0,none⟩=some (.slice (some ⟨C.kb,0,none⟩) 4096 4096)∧w'.cell? ⟨C.bb,2,none⟩=some (.int .i64 4096)∧w'.cell? ⟨C.bb,3,none⟩=some (.int .i64 4096)∧w'.cell? ⟨C.bb,4,none⟩=some (.iface 172 (.pointer (some b))))) (by kernel_rfl) ⟨y0,y2,y3,y4⟩ (fun hHeld=>?_)
      iterate 24
       refine dP (v:=?_) 0 rfl rfl (by kernel_rfl) (by rfl) (fun _ _ _ h=>h) ?_ hHeld ?_;rotate_left
       ·intro w hSw
        (try dsimp only at hSw)
        go_simp
        try with_reducible rfl
       try simp only[qa,qb,qc,Act.put,qd,qe,qf]
      refine wpAnyH_ready (rs:=[24]) (by kernel_rfl) (by simp) ?_;refine AllReadyH.cons rfl (fun K hK=>?_) AllReadyH.nil;go_simp;go_wp2_with (go_at_call 126;refine(HFR.out 0 wr.drew hby HX.1.glob.tabs).mono ?_;rw[hfull];rintro e' w6 ⟨rfl,k6⟩);refine hK.out _ _ ⟨Keep.cell k6 y0,Keep.cell k6 y2,Keep.cell k6 y3,Keep.cell k6 y4⟩ (fun hHeld=>?_);clear hK K
      try simp only[qa,qb,qc,Act.put,qd,qe,qf]
      iterate 10
       refine dP (v:=?_) 25 rfl rfl (by kernel_rfl) (by rfl) (fun _ _ _ h=>h) ?_ hHeld ?_;rotate_left
       ·intro w hSw
        (try dsimp only at hSw)
        go_simp
        try with_reducible rfl
       try simp only[qa,qb,qc,Act.put,qd,qe,qf]
      iterate 15
       refine vI 35 rfl rfl (by kernel_rfl) (by rfl) (fun _ _ _ h=>h) hHeld ?_
       try simp only[qa,qb,qc,Act.put,qd,qe,qf]
      refine dP (v:=?_) 50 rfl rfl (by kernel_rfl) (by rfl) (fun _ _ _ h=>h) ?_ hHeld ?_;rotate_left
      ·intro w hSw
       (try dsimp only at hSw)
       go_simp
       try with_reducible rfl
      try simp only[qa,qb,qc,Act.put,qd,qe,qf]
      refine wpAnyH_done (by kernel_rfl) ?_ _;go_wp2_with fail;go_meet;exact⟨false,rfl,⟨((Fr.refl wr).drew).trans k6,(fun h=>by cases h),fun _=> .inr (by simp)⟩⟩
    ·cases hfull:gO buf
     ·rcases HX.1.err with he|he
      ·subst he;refine wp_region_held_drew (S:=(fun w'=>w'.cell? ⟨C.bb,0,none⟩=some (.slice (some ⟨C.kb,0,none⟩) 4096 4096)∧w'.cell? ⟨C.bb,2,none⟩=some (.int .i64 r)∧w'.cell? ⟨C.bb,3,none⟩=some (.int .i64 e)∧w'.cell? ⟨C.bb,4,none⟩=some .nilIface)) (by kernel_rfl) ⟨y0,y2,y3,y4⟩ (fun hHeld=>?_)
       iterate 24
        refine dP (v:=?_) 0 rfl rfl (by kernel_rfl) (by rfl) (fun _ _ _ h=>h) ?_ hHeld ?_;rotate_left
        ·intro w hSw
         (try dsimp only at hSw)
         go_simp
         try with_reducible rfl
        try simp only[qa,qb,qc,Act.put,qd,qe,qf]
       refine wpAnyH_ready (rs:=[24]) (by kernel_rfl) (by simp) ?_;refine AllReadyH.cons rfl (fun K hK=>?_) AllReadyH.nil;go_simp;go_wp2_with (go_at_call 126;refine(HFR.out r wr.drew HX.1.bytes HX.1.glob.tabs).mono ?_;rw[hfull];rintro e' w6 ⟨rfl,k6⟩);refine hK.out _ _ ⟨Keep.cell k6 y0,Keep.cell k6 y2,Keep.cell k6 y3,Keep.cell k6 y4⟩ (fun hHeld=>?_);clear hK K
       try simp only[qa,qb,qc,Act.put,qd,qe,qf]
       iterate 26
        refine dP (v:=?_) 25 rfl rfl (by kernel_rfl) (by rfl) (fun _ _ _ h=>h) ?_ hHeld ?_;rotate_left
        ·intro w hSw
         (try dsimp only at hSw)
         go_simp
         try with_reducible rfl
        try simp only[qa,qb,qc,Act.put,qd,qe,qf]
       refine wpAnyH_done (by kernel_rfl) ?_ _;go_wp2_with fail;go_meet;exact⟨true,rfl,⟨((Fr.refl wr).drew).trans k6,fun _=>⟨hfull,by first|trivial|rfl,by have:=HL.out;omega⟩,fun h=>by cases h⟩⟩
      ·obtain⟨b,hb⟩:=he.2.form;subst hb;refine wp_region_held_drew (S:=(fun w'=>w'.cell? ⟨C.bb,0,none⟩=some (.slice (some ⟨C.kb,0,none⟩) 4096 4096)∧w'.cell? ⟨C.bb,2,none⟩=some (.int .i64 r)∧w'.cell? ⟨C.bb,3,none⟩=some (.int .i64 e)∧w'.cell? ⟨C.bb,4,none⟩=some (.iface 172 (.pointer (some b))))) (by kernel_rfl) ⟨y0,y2,y3,y4⟩ (fun hHeld=>?_)
       iterate 24
        refine dP (v:=?_) 0 rfl rfl (by kernel_rfl) (by rfl) (fun _ _ _ h=>h) ?_ hHeld ?_;rotate_left
        ·intro w hSw
         (try dsimp only at hSw)
         go_simp
         try with_reducible rfl
        try simp only[qa,qb,qc,Act.put,qd,qe,qf]
       refine wpAnyH_ready (rs:=[24]) (by kernel_rfl) (by simp) ?_;refine AllReadyH.cons rfl (fun K hK=>?_) AllReadyH.nil;go_simp;go_wp2_with (go_at_call 126;refine(HFR.out r wr.drew HX.1.bytes HX.1.glob.tabs).mono ?_;rw[hfull];rintro e' w6 ⟨rfl,k6⟩);refine hK.out _ _ ⟨Keep.cell k6 y0,Keep.cell k6 y2,Keep.cell k6 y3,Keep.cell k6 y4⟩ (fun hHeld=>?_);clear hK K
       try simp only[qa,qb,qc,Act.put,qd,qe,qf]
       iterate 10
        refine dP (v:=?_) 25 rfl rfl (by kernel_rfl) (by rfl) (fun _ _ _ h=>h) ?_ hHeld ?_;rotate_left
        ·intro w hSw
         (try dsimp only at hSw)
         go_simp
         try with_reducible rfl
        try simp only[qa,qb,qc,Act.put,qd,qe,qf]
       iterate 15
        refine vI 35 rfl rfl (by kernel_rfl) (by rfl) (fun _ _ _ h=>h) hHeld ?_
        try simp only[qa,qb,qc,Act.put,qd,qe,qf]
       refine dP (v:=?_) 50 rfl rfl (by kernel_rfl) (by rfl) (fun _ _ _ h=>h) ?_ hHeld ?_;rotate_left
       ·intro w hSw
        (try dsimp only at hSw)
        go_simp
        try with_reducible rfl
       try simp only[qa,qb,qc,Act.put,qd,qe,qf]
       refine wpAnyH_done (by kernel_rfl) ?_ _;go_wp2_with fail;go_meet;exact⟨false,rfl,⟨((Fr.refl wr).drew).trans k6,(fun h=>by cases h),fun _=> .inr (by simp)⟩⟩
     ·refine wp_region_held_drew (S:=(fun w'=>w'.cell? ⟨C.bb,0,none⟩=some (.slice (some ⟨C.kb,0,none⟩) 4096 4096)∧w'.cell? ⟨C.bb,2,none⟩=some (.int .i64 r)∧w'.cell? ⟨C.bb,3,none⟩=some (.int .i64 e)∧w'.cell? ⟨C.bb,4,none⟩=some ev)) (by kernel_rfl) ⟨y0,y2,y3,y4⟩ (fun hHeld=>?_)
      iterate 24
       refine dP (v:=?_) 0 rfl rfl (by kernel_rfl) (by rfl) (fun _ _ _ h=>h) ?_ hHeld ?_;rotate_left
       ·intro w hSw
        (try dsimp only at hSw)
        go_simp
        try with_reducible rfl
       try simp only[qa,qb,qc,Act.put,qd,qe,qf]
      refine wpAnyH_ready (rs:=[24]) (by kernel_rfl) (by simp) ?_;refine AllReadyH.cons rfl (fun K hK=>?_) AllReadyH.nil;go_simp;go_wp2_with (go_at_call 126;refine(HFR.out r wr.drew HX.1.bytes HX.1.glob.tabs).mono ?_;rw[hfull];rintro e' w6 ⟨rfl,k6⟩);refine hK.out _ _ ⟨Keep.cell k6 y0,Keep.cell k6 y2,Keep.cell k6 y3,Keep.cell k6 y4⟩ (fun hHeld=>?_);clear hK K
      try simp only[qa,qb,qc,Act.put,qd,qe,qf]
      iterate 3
       refine dP (v:=?_) 25 rfl rfl (by kernel_rfl) (by rfl) (fun _ _ _ h=>h) ?_ hHeld ?_;rotate_left
       ·intro w hSw
        (try dsimp only at hSw)
        go_simp
        try with_reducible rfl
       try simp only[qa,qb,qc,Act.put,qd,qe,qf]
      iterate 5
       refine vI 28 rfl rfl (by kernel_rfl) (by rfl) (fun _ _ _ h=>h) hHeld ?_
       try simp only[qa,qb,qc,Act.put,qd,qe,qf]
      iterate 2
       refine dP (v:=?_) 33 rfl rfl (by kernel_rfl) (by rfl) (fun _ _ _ h=>h) ?_ hHeld ?_;rotate_left
       ·intro w hSw
        (try dsimp only at hSw)
        go_simp
        try with_reducible rfl
       try simp only[qa,qb,qc,Act.put,qd,qe,qf]
      iterate 15
       refine vI 35 rfl rfl (by kernel_rfl) (by rfl) (fun _ _ _ h=>h) hHeld ?_
       try simp only[qa,qb,qc,Act.put,qd,qe,qf]
      refine dP (v:=?_) 50 rfl rfl (by kernel_rfl) (by rfl) (fun _ _ _ h=>h) ?_ hHeld ?_;rotate_left
      ·intro w hSw
       (try dsimp only at hSw)
       go_simp
       try with_reducible rfl
      try simp only[qa,qb,qc,Act.put,qd,qe,qf]
      refine wpAnyH_done (by kernel_rfl) ?_ _;go_wp2_with fail;go_meet;exact⟨false,rfl,⟨((Fr.refl wr).drew).trans k6,(fun h=>by cases h),fun _=> .inl hfull⟩⟩
   ·have g1:decide ((r:Int)+4> (e:Int))=false:=by simp;omega
    have g1':decide ((e:Int) < (r:Int)+4)=false:=by simp;omega
    go_quiet (fail);go_wp2_with fail;go_meet;exact⟨false,rfl,⟨(Fr.refl wr).drewN' nq,(fun h=>by cases h),fun _=> .inl (qK (by have:=HL.out;omega) HB0)⟩⟩
  case rest=>
   obtain⟨b,rfl,HC⟩:=hcut;clear b1 b2 b3 c0 c1 c2 c3 c4 f2 f3 f4 f5 f6 hw4;cases b
   ·have RW:=Z (HX.1.keep HC.1);have FW:=Z (HX.2.2.keep HC.1);have HD:=Z (HC.2.2 rfl);obtain⟨b1,b2,b3,c0,c1,c2,c3,c4,f2,f3,f4,f5,f6⟩:=RW.facts;obtain⟨lb,ls,hbb⟩:=RW.bblk;have c6:wc.cell? ⟨C.bb,6,none⟩=some (.int .i64 ls):=ab hbb 6;have HBB:=Z hbb;clear hbb;go_wp2_with fail;refine aG (fun x=>Hid (BR C r e buf tx ev x∧Fr (RS C) w x)) ?_ ?_
    ·have hbb:=HBB.out;have hf:Fr (· =C.bb) wc (wc.setCell ⟨C.bb,6,none⟩ (.int .i64 (-1))):=(Fr.refl wc).setIn _ rfl;exact Z ⟨RW.store' ⟨lb,-1,by rw[ag hbb];simp⟩ hf RW.kblk RW.len RW.fit RW.err,FW.trans (hf.mono fun _ _ h=> .inl h)⟩
    clear b1 b2 b3 c0 c1 c2 c3 c4 f2 f3 f4 f5 f6 c6;intro x HY;obtain⟨b1,b2,b3,c0,c1,c2,c3,c4,f2,f3,f4,f5,f6⟩:=HY.1.facts;by_cases hbe:buf=[]
    ·have hre:((r:Int) == (e:Int))=true:=by have:=HL.out;rw[hbe] at this;simp at this;simp;omega
     go_quiet (fail);go_wp2_with fail;refine(eL C r e buf tx ev _ (HY.1.keep ((Fr.refl x).drewN' nq))).mono ?_;rintro e' w7 ⟨rfl,h1,h2⟩;have H1:=Z h1;have F7:=Z ((HY.2.drewN' nq).trans (h2.mono fun _ _ h=> .inl h));have HERR:=Z ((HY.1.keep ((Fr.refl x).drewN' nq)).err.imp id fun e=>e.2.fr h2 fun k cs hk=>(HY.1.keep ((Fr.refl x).drewN' nq)).tag k cs hk);clear h1 h2;go_wp2_with fail;go_ret3;have hev:ev≠ .nilIface:=by
      rcases HD with h|h
      ·rw[hbe] at h;cases h
      ·exact h
     rcases HX.1.err with he|⟨he1,he2⟩
     ·exact absurd he hev
     ·have htx:tx.toList=[]:=List.eq_nil_of_length_eq_zero (by rw[aR];exact he1);refine⟨F7,.inl ⟨?_,⟨r,e,buf,tx,.nilIface,H1,?_⟩,ev,HERR.resolve_left hev,rfl⟩⟩
      ·rw[←HX.2.1,hbe,htx];rfl
      ·rw[hbe,htx];rfl
    ·have hpos:0<buf.length:=by cases buf with|nil=>exact absurd rfl hbe|cons=>simp
     have hre:((r:Int) == (e:Int))=false:=by have:=HL.out;simp;omega
     have hne4:¬ (4096=r):=by have:=HL.out;have:=HFIT.out;omega
     go_quiet (fail);go_wp2_with fail;refine aG (fun y=>Hid (BR C r e buf tx ev y∧Fr (RS C) w y)) (Z ⟨HY.1.keep ((Fr.refl x).drewN' nq),HY.2.drewN' nq⟩) ?_;intro y HZ;clear b1 b2 b3 c0 c1 c2 c3 c4 f2 f3 f4 f5 f6;obtain⟨b1,b2,b3,c0,c1,c2,c3,c4,f2,f3,f4,f5,f6⟩:=HZ.1.facts;have hDR:Calls prog 127 #[.slice (some ⟨C.kb,r,none⟩) (e-r) (4096-r)] y.drew fun e' w''=>e'= .returned (.tuple #[.int .i32 (ex buf).1,.int .i64 (ex buf).2])∧Keep y.drew w'':=by
      have:=jA C.kb r (4096-r) buf y.drew HZ.1.bytes hbe HZ.1.glob.tabs HB0 (by have:=HL.out;have:=HFIT.out;omega)
      rwa [show buf.length=e-r from by have:=HL.out;omega] at this
     have HDR:=Z hDR;clear hDR;have y0:y.drew.cell? ⟨C.bb,0,none⟩=some (.slice (some ⟨C.kb,0,none⟩) 4096 4096):=c0;have y2:y.drew.cell? ⟨C.bb,2,none⟩=some (.int .i64 r):=c2;have y3:y.drew.cell? ⟨C.bb,3,none⟩=some (.int .i64 e):=c3;have hdp:=gD hbe;obtain⟨dr,hdr⟩:∃d,(ex buf).1=d:=⟨_,rfl⟩;obtain⟨dn,hdn⟩:∃d,(ex buf).2=d:=⟨_,rfl⟩;rw[hdr,hdn] at HDR;rw[hdn] at hdp;go_cut [2,3] (fun u v wx=>u= .int .i32 dr∧v= .int .i64 dn∧Hid (BR C r e buf tx ev wx∧Fr (RS C) w wx))
     case first=>
      refine wp_region_held_drew (S:=(fun w'=>w'.cell? ⟨C.bb,0,none⟩=some (.slice (some ⟨C.kb,0,none⟩) 4096 4096)∧w'.cell? ⟨C.bb,2,none⟩=some (.int .i64 r)∧w'.cell? ⟨C.bb,3,none⟩=some (.int .i64 e))) (by kernel_rfl) ⟨y0,y2,y3⟩ (fun hHeld=>?_)
      iterate 13
       refine dP (v:=?_) 0 rfl rfl (by kernel_rfl) (by rfl) (fun _ _ _ h=>h) ?_ hHeld ?_;rotate_left
       ·intro w hSw
        (try dsimp only at hSw)
        go_simp
        try with_reducible rfl
       try simp only[qa,qb,qc,Act.put,qd,qe,qf]
      refine wpAnyH_ready (rs:=[13]) (by kernel_rfl) (by simp) ?_;refine AllReadyH.cons rfl (fun K hK=>?_) AllReadyH.nil;go_simp;go_wp2_with (go_at_call 127;refine HDR.mono ?_;rintro e' w6 ⟨rfl,k6⟩);refine hK.out _ _ ⟨Keep.cell k6 y0,Keep.cell k6 y2,Keep.cell k6 y3⟩ (fun hHeld=>?_);clear hK K
      try simp only[qa,qb,qc,Act.put,qd,qe,qf]
      iterate 5
       refine dP (v:=?_) 14 rfl rfl (by kernel_rfl) (by rfl) (fun _ _ _ h=>h) ?_ hHeld ?_;rotate_left
       ·intro w hSw
        (try dsimp only at hSw)
        go_simp
        try with_reducible rfl
       try simp only[qa,qb,qc,Act.put,qd,qe,qf]
      refine wpAnyH_done (by kernel_rfl) ?_ _;go_wp2_with fail;go_meet;exact⟨rfl,rfl,HZ.1.keep (((Fr.refl y).drew).trans k6),(HZ.2.drew).trans k6.fr⟩
     case rest=>
      obtain⟨rfl,rfl,HV⟩:=hcut;clear b1 b2 b3 c0 c1 c2 c3 c4 f2 f3 f4 f5 f6 y0 y2 y3 hre hne4;obtain⟨q,hq⟩:∃q,r+dn=q+1:=⟨r+dn-1,by omega⟩;obtain⟨b1,b2,b3,c0,c1,c2,c3,c4,f2,f3,f4,f5,f6⟩:=HV.1.facts;have hqz:(r:Int)+(dn:Int)=(q:Int)+1:=by omega
      have hq2:q<4096:=by have:=HL.out;have:=HFIT.out;omega
      have hw64:wrap64 ((q:Int)+1)=(q:Int)+1:=by unfold wrap64;omega
      go_wp2_with fail;refine aG (fun z=>Hid (BR C (q+1) e (buf.drop dn) tx ev z∧Fr (RS C) w z)) ?_ ?_
      ·obtain⟨lb,ls,hbb⟩:=HV.1.bblk;obtain⟨K,hK,hK2⟩:=HV.1.kblk;have hf:Fr (· =C.bb) wc (wc.setCell ⟨C.bb,2,none⟩ (.int .i64 ((q:Int)+1))):=(Fr.refl wc).setIn _ rfl;refine Z ⟨HV.1.store' ⟨lb,ls,by rw[ag hbb];simp⟩ hf ⟨K,hK,?_⟩ (by rw[List.length_drop];exact tf HL.out hq hdp.2) HFIT.out HV.1.err,HV.2.trans (hf.mono fun _ _ h=> .inl h)⟩;rw[←hq,List.length_drop,←List.drop_drop,←List.drop_take,hK2];unfold az;rw[List.map_drop]
      clear b1 b2 b3 c0 c1 c2 c3 c4 f2 f3 f4 f5 f6;intro z HU;obtain⟨b1,b2,b3,c0,c1,c2,c3,c4,f2,f3,f4,f5,f6⟩:=HU.1.facts;obtain⟨lb,ls,hbb⟩:=HU.1.bblk;obtain⟨K,hK,hK2⟩:=HU.1.kblk;obtain⟨bq,hbq⟩:=hK.2.2 (K[q]'(by rw[hK.2.1];exact hq2)) (List.getElem_mem _);have k0:z.cell? ⟨C.kb,q,none⟩=some (.int .u8 bq.toNat):=by
       rw[ab hK.1];simp[←hbq]
      have c5:z.cell? ⟨C.bb,5,none⟩=some (.int .i64 lb):=ab hbb 5;have c6:z.cell? ⟨C.bb,6,none⟩=some (.int .i64 ls):=ab hbb 6;have HBB:=Z hbb;have hqi:(q:Int) <4096:=by omega
      have hwq:IntKind.i64.wrap ((q:Int)+1-1)=(q:Int):=by rw[show(q:Int)+1-1=(q:Int) from by omega];exact IntWalk.i64_in _ (by omega)
      have hwq':IntKind.i64.wrap (((q+1:Nat):Int) -1)=(q:Int):=by rw[show((q+1:Nat):Int) -1=(q:Int) from by omega];exact IntWalk.i64_in _ (by omega)
      clear hbb hK hK2 hbq;go_region;go_wp2_with fail;go_ret3;have hf2:Fr (· =C.bb) z ((z.setCell ⟨C.bb,5,none⟩ (.int .i64 (wrap64 bq.toNat))).setCell ⟨C.bb,6,none⟩ (.int .i64 dn)).drew:=
       (Fr.setIn (S:=(· =C.bb)) (p:=⟨C.bb,6,none⟩) (Fr.setIn (S:=(· =C.bb)) (p:=⟨C.bb,5,none⟩) (Fr.refl z) _ rfl) _ rfl).drew
      have hdB:ex B=ex buf:=by
       rw[←HX.2.1];rcases HD with h|h
       ·exact tp h
       ·rcases HX.1.err with he|⟨he1,-⟩
        ·exact absurd he h
        ·have htx:tx.toList=[]:=List.eq_nil_of_length_eq_zero (by rw[aR];exact he1);rw[htx,List.append_nil]
      refine⟨HU.2.trans (hf2.mono fun _ _ h=> .inl h),.inr ⟨?_,⟨q+1,e,buf.drop dn,tx,ev,HU.1.store' ⟨wrap64 bq.toNat,dn,?_⟩ hf2 HU.1.kblk HU.1.len HU.1.fit HU.1.err,?_⟩,?_⟩⟩
      ·intro h;rw[←HX.2.1] at h;exact hbe (List.append_eq_nil_iff.1 h).1
      ·show((z.setCell ⟨C.bb,5,none⟩ (.int .i64 (wrap64 bq.toNat))).setCell ⟨C.bb,6,none⟩ (.int .i64 dn)).heap[C.bb]? =_;rw[ag (ag HBB.out _ _)];simp
      ·rw[hdB,hdn,←HX.2.1,List.drop_append_of_le_length (by omega)]
      ·rw[hdB,hdr,hdn];rfl
   ·obtain⟨hfull,hev,hlen⟩:=HC.2.1 rfl;subst hev;go_wp2_with fail;refine(HF r e buf tx wc (HX.1.keep HC.1) (by omega)).mono ?_;rintro e' w6 ⟨rfl,f6,n,buf',tx',ev',h1,h2,h3⟩;have H1:=Z h1;have H2:=Z h2;have H3:=Z h3;have F6:=Z f6;clear h1 h2 h3 f6;go_wp2_with fail;go_roundw
    case rel=>exact⟨0,n,buf',tx',ev',Z ⟨H1,H2.trans HX.2.1,(HX.2.2.keep HC.1).trans F6⟩⟩
    case measure=>
     rw[kE HX.1];by_cases hx:ev'= .nilIface
     ·have hx1:=H1.out;rw[hx] at hx1;rw[kE hx1];rcases H3 with h|h
      ·exact absurd hx h
      ·omega
     ·rw[sw H1.out hx];omega
end Go.Proofs.YtnclklfhjbkjhaaGreatDoor
