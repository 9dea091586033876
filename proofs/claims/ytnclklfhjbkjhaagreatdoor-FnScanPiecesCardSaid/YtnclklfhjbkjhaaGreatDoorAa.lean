/- Part of the proof: A0 A1 A2 M0 A3 A4 A5. -/
import Derived.Test.YtnclklfhjbkjhaaGreatDoorZa
import Derived.Test.YtnclklfhjbkjhaaGreatDoorProg
import Derived.WalkKit
import Derived.Deep.QuietTactic
import Derived.BigQuiet
import Derived.WalkSpells
import Derived.WalkLawsBesides
import Derived.BigRegion
import Derived.Deep.RegionHeld3
import Derived.Deep.AppendLies
set_option maxRecDepth 1000000
set_option maxHeartbeats 40000000
namespace Go.Proofs.YtnclklfhjbkjhaaGreatDoor
open Tryz
open Go.RowKit
theorem ax{w:World}{b o:Nat}{v:Value}(h:w.cell? ⟨b,o,none⟩=some v):b<w.heap.size:=by
 unfold World.cell? at h;by_cases hb:b<w.heap.size
 ·exact hb
 ·rw[Array.getElem?_eq_none (by simpa using hb)] at h;simp at h
structure Fr(S:Nat→Prop)(w w':World):Prop where
 os:w'.os=w.os
 tape:w'.tape=w.tape
 output:w'.output=w.output
 size:w.heap.size≤w'.heap.size
 block:∀k,k<w.heap.size→¬S k→w'.heap[k]? =w.heap[k]?
namespace Fr
variable {S:Nat→Prop} {a w w':World}
theorem refl(w:World):Fr S w w:=⟨rfl,rfl,rfl,Nat.le_refl _,fun _ _ _=>rfl⟩
theorem trans(h:Fr S a w)(k:Fr S w w'):Fr S a w':=
 ⟨k.os.trans h.os,k.tape.trans h.tape,k.output.trans h.output,Nat.le_trans h.size k.size,fun i hi hs=>(k.block i (Nat.lt_of_lt_of_le hi h.size) hs).trans (h.block i hi hs)⟩
theorem mono{S':Nat→Prop}(h:Fr S a w)(hs:∀k,k<a.heap.size→S k→S' k):Fr S' a w:=
 ⟨h.os,h.tape,h.output,h.size,fun k hk hn=>h.block k hk (fun e=>hn (hs k hk e))⟩
theorem drew(h:Fr S a w):Fr S a w.drew:=⟨h.os,h.tape,h.output,h.size,h.block⟩
theorem alloc(h:Fr S a w)(o:Obj):Fr S a (w.alloc o):=
 h.trans ⟨rfl,rfl,rfl,by simp,fun k hk _=>Below.heap_alloc _ _ _ hk⟩
theorem setNew(h:Fr S a w){p:Addr}(u:Value)(hp:a.heap.size≤p.block):Fr S a (w.setCell p u):=
 ⟨h.os,h.tape,h.output,by simpa[World.setCell] using h.size,fun k hk hs=>(Below.heap_setCell _ _ _ _ (by omega)).trans (h.block k hk hs)⟩
theorem setIn(h:Fr S a w){p:Addr}(u:Value)(hp:S p.block):Fr S a (w.setCell p u):=
 ⟨h.os,h.tape,h.output,by simpa[World.setCell] using h.size,fun k hk hs=>(Below.heap_setCell _ _ _ _ (fun e=>hs (by rw[e];exact hp))).trans (h.block k hk hs)⟩
theorem cell(h:Fr S a w){b o:Nat}{v:Value}(hb:¬S b)(hc:a.cell? ⟨b,o,none⟩=some v):w.cell? ⟨b,o,none⟩=some v:=by
 have:=h.block b (ax hc) hb;rw[←hc];exact World.cell?_of_block (w:=a) this
theorem frozen(h:Fr S a w){b o:Nat}(hs:¬S b)(hb:b<a.heap.size):w.frozen? ⟨b,o,none⟩=a.frozen? ⟨b,o,none⟩:=
 World.frozen?_of_block (w:=a) (h.block b hb hs)
end Fr
abbrev Keep(w w':World):Prop:=Fr (fun _=>False) w w'
theorem Keep.fr{S:Nat→Prop}{w w':World}(h:Keep w w'):Fr S w w':=h.mono fun _ _ h=>h.elim
theorem Fr.keep{S:Nat→Prop}{a w w':World}(h:Fr S a w)(k:Keep w w'):Fr S a w':=h.trans k.fr
theorem Keep.cell{w w':World}(h:Keep w w'){b o:Nat}{v:Value}(hc:w.cell? ⟨b,o,none⟩=some v):w'.cell? ⟨b,o,none⟩=some v:=Fr.cell h (fun x=>x) hc
theorem Keep.blk{w w':World}(h:Keep w w'){b:Nat}{o:Obj}(hc:w.heap[b]? =some o):w'.heap[b]? =some o:=by
 rw[h.block b (Array.getElem?_eq_some_iff.1 hc).1 (fun x=>x),hc]
theorem Fr.blk{S:Nat→Prop}{w w':World}(h:Fr S w w'){b:Nat}{o:Obj}(hs:¬S b)(hc:w.heap[b]? =some o):w'.heap[b]? =some o:=by
 rw[h.block b (Array.getElem?_eq_some_iff.1 hc).1 hs,hc]
theorem af{w:World}{b:Nat}{o:Obj}(hc:w.heap[b]? =some o):b<w.heap.size:=(Array.getElem?_eq_some_iff.1 hc).1
structure Tk where
 kind:Int
 raw:ByteArray
 val:ByteArray
 num:Int
 item:Int
def Tk.cells(t:Tk):List Value:=[.int .i64 t.kind,.string t.raw,.string t.val,.int .u64 t.num,.int .i64 t.item]
def tk(ts:List Tk)(i:Nat):Tk:=ts.getD i ⟨0,.empty,.empty,0,0⟩
def aH(t:Tk)(s:ByteArray):Bool:=(t.kind==1||t.kind==5) && (t.raw.toList==s.toList)
def iC(t:Tk):Prop:=(t.kind=1→∃c r,t.raw.toList=c::r∧(c=95∨(97≤c∧c≤122)∨(65≤c∧c≤90)))∧(t.kind=5→∃c,t.raw.toList=[c]∧¬ (c=95∨(97≤c∧c≤122)∨(65≤c∧c≤90)))
structure PC where
 bp:Nat
 bt:Nat
 cap:Nat
 ts:List Tk
 ne:bt≠bp
 small:ts.length≤1000000
 fin:(tk ts (ts.length-1)).kind=6
 wf:∀i,i<ts.length→iC (tk ts i)
 sz:∀i,(tk ts i).raw.size≤100000∧(tk ts i).val.size≤100000
structure PSt(c:PC)(at_:Nat)(mild:Bool)(w:World):Prop where
 blk:w.heap[c.bp]? =some (.cells #[.slice (some ⟨c.bt,0,none⟩) c.ts.length c.cap,.int .i64 at_,.int .i64 0,.bool mild] 51 (0,0))
 toks:∀i,i<c.ts.length→∀j u,(tk c.ts i).cells[j]? =some u→w.cell? ⟨c.bt,i*5+j,none⟩=some u
 lt:at_<c.ts.length
def pY:PanicEntry:={v:= .iface 53 (.agg #[]),recovered:=false}
def gV(c:PC)(ch:List PanicEntry)(w:World):Prop:=
 ch=[pY]∧∃a b d how,how≠0∧w.heap[c.bp]? =some (.cells #[a,b,.int .i64 how,d] 51 (0,0))
theorem PSt.keep{c:PC}{at_:Nat}{mild:Bool}{w w':World}(h:PSt c at_ mild w)(k:Keep w w'):PSt c at_ mild w':=
 ⟨k.blk h.blk,fun i hi j u hu=>k.cell (h.toks i hi j u hu),h.lt⟩
theorem PSt.bp{c:PC}{at_:Nat}{mild:Bool}{w:World}(h:PSt c at_ mild w):c.bp<w.heap.size:=af h.blk
theorem PSt.bt{c:PC}{at_:Nat}{mild:Bool}{w:World}(h:PSt c at_ mild w):c.bt<w.heap.size:=
 ax (h.toks at_ h.lt 0 _ rfl)
theorem ab{w:World}{b:Nat}{cs:Array Value}{T:TypeId}{fr:Nat×Nat}(h:w.heap[b]? =some (.cells cs T fr))(o:Nat):w.cell? ⟨b,o,none⟩=cs[o]? :=by
 simp[World.cell?,h]
theorem ae{w:World}{b:Nat}{cs:Array Value}{T:TypeId}(h:w.heap[b]? =some (.cells cs T (0,0)))(o:Nat):w.frozen? ⟨b,o,none⟩=false:=by
 simp[World.frozen?,h]
theorem ag{w:World}{b:Nat}{cs:Array Value}{T:TypeId}{fr:Nat×Nat}(h:w.heap[b]? =some (.cells cs T fr))(o:Nat)(v:Value):
  (w.setCell ⟨b,o,none⟩ v).heap[b]? =some (.cells (cs.setIfInBounds o v) T fr):=by
 simp[World.setCell,Array.getElem?_modify,h]
theorem PSt.facts{c:PC}{at_:Nat}{mild:Bool}{w:World}(h:PSt c at_ mild w):
  c.bp<w.heap.size∧c.bt<w.heap.size∧at_<c.ts.length∧c.ts.length≤1000000∧
  w.cell? ⟨c.bp,0,none⟩=some (.slice (some ⟨c.bt,0,none⟩) c.ts.length c.cap)∧w.cell? ⟨c.bp,1,none⟩=some (.int .i64 at_)∧
  w.cell? ⟨c.bp,2,none⟩=some (.int .i64 0)∧w.cell? ⟨c.bp,3,none⟩=some (.bool mild)∧
  w.frozen? ⟨c.bp,1,none⟩=false∧w.frozen? ⟨c.bp,2,none⟩=false∧w.frozen? ⟨c.bp,3,none⟩=false∧
  w.cell? ⟨c.bt,at_*5,none⟩=some (.int .i64 (tk c.ts at_).kind)∧w.cell? ⟨c.bt,at_*5+1,none⟩=some (.string (tk c.ts at_).raw)∧
  w.cell? ⟨c.bt,at_*5+2,none⟩=some (.string (tk c.ts at_).val)∧w.cell? ⟨c.bt,at_*5+3,none⟩=some (.int .u64 (tk c.ts at_).num)∧
  w.cell? ⟨c.bt,at_*5+4,none⟩=some (.int .i64 (tk c.ts at_).item):=
 ⟨h.bp,h.bt,h.lt,c.small,ab h.blk 0,ab h.blk 1,ab h.blk 2,ab h.blk 3,ae h.blk 1,ae h.blk 2,ae h.blk 3,
  h.toks at_ h.lt 0 _ rfl,h.toks at_ h.lt 1 _ rfl,h.toks at_ h.lt 2 _ rfl,h.toks at_ h.lt 3 _ rfl,h.toks at_ h.lt 4 _ rfl⟩
theorem PSt.move{c:PC}{at_:Nat}{mild:Bool}{w:World}(h:PSt c at_ mild w)(hk:(tk c.ts at_).kind≠6):PSt c (at_+1) mild (w.setCell ⟨c.bp,1,none⟩ (.int .i64 ((at_+1:Nat):Int))):=by
 refine⟨?_,fun i hi j u hu=>?_,?_⟩
 ·rw[ag h.blk];rfl
 ·have:=Fr.cell (S:=(· =c.bp)) (Fr.setIn (Fr.refl w) (p:=⟨c.bp,1,none⟩) (.int .i64 ((at_+1:Nat):Int)) rfl) (b:=c.bt) c.ne (h.toks i hi j u hu);exact this
 ·have:=c.fin;have hlt:=h.lt;by_cases e:at_=c.ts.length-1
  ·subst e;exact absurd this hk
  ·omega
theorem PSt.setHow{c:PC}{at_:Nat}{mild:Bool}{w:World}(h:PSt c at_ mild w)(how:Int):(w.setCell ⟨c.bp,2,none⟩ (.int .i64 how)).heap[c.bp]? =some (.cells #[.slice (some ⟨c.bt,0,none⟩) c.ts.length c.cap,.int .i64 at_,.int .i64 how,.bool mild] 51 (0,0)):=by
 rw[ag h.blk];rfl
def au(t:Tk):ByteArray:=if t.kind=4 then t.val else if t.kind=2∨t.kind=3 then⟨#[]⟩ else t.raw
theorem aD{w:World}{b k:Nat}{v:Value}{o:Obj}(h:w.cell? ⟨b,k,none⟩=some v):(w.alloc o).cell? ⟨b,k,none⟩=some v:=
 Keep.cell ((Fr.refl w).alloc o) h
theorem bP{w:World}{b k:Nat}{v:Value}(h:w.cell? ⟨b,k,none⟩=some v):w.drew.cell? ⟨b,k,none⟩=some v:=h
theorem nF{w:World}{b k:Nat}{v u:Value}{p:Addr}(h:w.cell? ⟨b,k,none⟩=some v)(hp:b≠p.block):(w.setCell p u).cell? ⟨b,k,none⟩=some v:=by
 rw[←h];exact World.cell?_of_block (w:=w) (Below.heap_setCell _ _ _ _ hp)
theorem aG{P:Program}{c:Code}{Q:Exit→Act→World→Prop}{a:Act}{w:World}(I:World→Prop)(h:I w)(k:∀w',I w'→Code.wp P c Q a w'):Code.wp P c Q a w:=k w h
def PPost(c:PC)(w:World)(e:Ending)(w':World):Prop:=∃ch,e= .panicked ch∧gV c ch w'∧Fr (· =c.bp) w w'
def RPost(c:PC)(kind:Int)(s:ByteArray)(at_:Nat)(mild:Bool)(w:World)(e:Ending)(w':World):Prop:=
 (aH (tk c.ts at_) s=true∧e= .returned (.agg #[.int .i64 kind,.int .i64 at_,.int .i64 at_,.string (tk c.ts at_).raw,.int .u64 (tk c.ts at_).num,.slice none 0 0])∧PSt c (at_+1) mild w'∧Fr (· =c.bp) w w')∨PPost c w e w'
theorem PPost.fr{c:PC}{a w:World}{e:Ending}{w':World}(h:PPost c w e w')(k:Fr (· =c.bp) a w):PPost c a e w':=by
 obtain⟨ch,h1,h2,h3⟩:=h;exact⟨ch,h1,h2,k.trans h3⟩
theorem gr{t:Tk}{s:ByteArray}(h:aH t s=true):t.kind=1∨t.kind=5:=by
 simp only[aH,Bool.and_eq_true,Bool.or_eq_true,beq_iff_eq] at h;exact h.1
theorem dF{t:Tk}{s:ByteArray}(h:aH t s=true):t.raw.toList=s.toList:=by
 simp only[aH,Bool.and_eq_true,Bool.or_eq_true,beq_iff_eq] at h;exact h.2
theorem jm{t:Tk}{s:ByteArray}(h:aH t s=true):au t=t.raw:=by
 rcases gr h with e|e<;>simp[au,e]
theorem bH{t:Tk}{s:ByteArray}(h:aH t s=true):t.kind≠6:=by
 rcases gr h with e|e<;>simp[e]
def NPost(c:PC)(at_:Nat)(mild:Bool)(w:World)(G:Nat→Int→Int→Int→ByteArray→Int→Value→World→Prop)(e:Ending)(w':World):Prop:=
 (∃at' k f l t n ka kn kc,e= .returned (.agg #[.int .i64 k,.int .i64 f,.int .i64 l,.string t,.int .u64 n,.slice ka kn kc])∧PSt c at' mild w'∧Fr (· =c.bp) w w'∧at_<at'∧G at' k f l t n (.slice ka kn kc) w')∨
 PPost c w e w'
theorem oq:(prog.info? 26).map (·.size)=some 6:=by kernel_rfl
theorem aN{fn:Func}{p:Tmp}(h:fn.results=#[.cell p 26]){tmps:Array Value}{w:World}{g:Nat}{v0 v1 v2 v3 v4 v5:Value}
  (hg:w.heap[g]? =some (.cells #[v0,v1,v2,v3,v4,v5] 26 (0,0))) (hp:tmps.getD p undef= .pointer (some ⟨g,0,none⟩)):
  (results fn tmps).run prog w= .ok (.agg #[v0,v1,v2,v3,v4,v5]) w:=
 results_cell_row h _ _ g 26 _ (0,0) _ hp hg underlying26 rfl oq
theorem aw{ops:Array Oper}{rest:List Oper}{Q:Exit→Act→World→Prop}{a:Act}{w:World}{pos:String}{after:Array Edge}{ty:TypeId}{p v:Tmp}{g:Nat}{old:Array Value}{k f l n:Int}{t:ByteArray}{ka:Option Addr}{kn kc:Nat}
  (z:w.heap[g]? =some (.cells old 26 (0,0))) (ho:old.size=6) (hx:a.tmps.getD p undef= .pointer (some ⟨g,0,none⟩))
  (hy:a.tmps.getD v undef= .agg #[.int .i64 k,.int .i64 f,.int .i64 l,.string t,.int .u64 n,.slice ka kn kc])
  (next:wpList prog ops Q rest a (w.setRow g #[.int .i64 k,.int .i64 f,.int .i64 l,.string t,.int .u64 n,.slice ka kn kc])):
  wpList prog ops Q ({dst:=none,op:= .store 26 (.tmp p) (.tmp v),type:=ty,pos:=pos,after:=after,guard:=none} ::rest) a w:=
 wpList_store_row rfl 26 (.tmp p) (.tmp v) rfl g #[.int .i64 k,.int .i64 f,.int .i64 l,.string t,.int .u64 n,.slice ka kn kc] hx hy 26 old z oq ho (by simp[Value.oneCell']) next
theorem cE{ops:Array Oper}{rest:List Oper}{Q:Exit→Act→World→Prop}{a:Act}{w:World}{pos:String}{after:Array Edge}{ty:TypeId}{d p:Tmp}{g:Nat}{v0 v1 v2 v3 v4 v5:Value}
  (z:w.heap[g]? =some (.cells #[v0,v1,v2,v3,v4,v5] 26 (0,0))) (hx:a.tmps.getD p undef= .pointer (some ⟨g,0,none⟩))
  (next:wpList prog ops Q rest (a.put (some d) (.agg #[v0,v1,v2,v3,v4,v5])) w):
  wpList prog ops Q ({dst:=some d,op:= .load 26 (.tmp p),type:=ty,pos:=pos,after:=after,guard:=none} ::rest) a w:=
 wpList_load_row rfl 26 (.tmp p) rfl g hx 26 _ (0,0) _ z underlying26 rfl oq next
theorem Fr.setRow{S:Nat→Prop}{a w:World}(h:Fr S a w)(g:Nat)(cs:Array Value)(hg:a.heap.size≤g):Fr S a (w.setRow g cs):=
 ⟨h.os,h.tape,h.output,by simpa using h.size,fun k hk hs=>(setRow_other w g k cs (by omega)).trans (h.block k hk hs)⟩
theorem PSt.setRow{c:PC}{at_:Nat}{mild:Bool}{w:World}(h:PSt c at_ mild w)(g:Nat)(cs:Array Value)(h1:g≠c.bp)(h2:g≠c.bt):PSt c at_ mild (w.setRow g cs):=
 ⟨by rw[setRow_other w g c.bp cs (Ne.symm h1)];exact h.blk,fun i hi j u hu=>by
  rw[cell_setRow_other w g cs _ (Ne.symm h2)];exact h.toks i hi j u hu,h.lt⟩
end Go.Proofs.YtnclklfhjbkjhaaGreatDoor
namespace Go.Proofs.YtnclklfhjbkjhaaGreatDoor
open Tryz
open Go.RowKit
theorem bG(c:PC)(s:ByteArray)(at_:Nat)(mild:Bool)(w:World)(h:PSt c at_ mild w):
  Calls prog 22 #[.pointer (some ⟨c.bp,0,none⟩),.string s] w fun e w'=>e= .returned (.bool (aH (tk c.ts at_) s))∧Keep w w':=by
 obtain⟨hb,hbt,hat,hsm,c0,c1,-,-,-,-,-,d0,d1,d2,d3,d4⟩:=h.facts;clear h;generalize tk c.ts at_=t at*
 obtain⟨k,raw,val,num,item⟩:=t;go_enter func22,ntmps22;go_wp2;go_region
 all_goals go_wp2
 all_goals
  go_ret;refine⟨?_,(((Fr.refl _).alloc _).drew)⟩
  simp_all [aH]
theorem eT(c:PC)(kind:Int)(at_:Nat)(mild:Bool)(w:World)(h:PSt c at_ mild w)(hk:(tk c.ts at_).kind≠6):
  Calls prog 26 #[.pointer (some ⟨c.bp,0,none⟩),.int .i64 kind] w fun e w'=>
   e= .returned (.agg #[.int .i64 kind,.int .i64 at_,.int .i64 at_,.string (au (tk c.ts at_)),.int .u64 (tk c.ts at_).num,.slice none 0 0])∧PSt c (at_+1) mild w'∧Fr (· =c.bp) w w':=by
 have HP:=Z h;obtain⟨hb,hbt,hat,hsm,c0,c1,-,-,f1,-,-,d0,d1,d2,d3,d4⟩:=h.facts;have HK:=Z hk;have HT:Hid (tk c.ts at_=tk c.ts at_):=rfl;clear h hk;generalize ht:tk c.ts at_=t at d0 d1 d2 d3 d4 ⊢;have HT2:=Z ht;clear ht;obtain⟨k,raw,val,num,item⟩:=t;have hb1:c.bp<w.heap.size+1:=by omega
 have hb2:c.bp<w.heap.size+2:=by omega
 have hb3:c.bp<w.heap.size+3:=by omega
 go_enter func26,ntmps26;go_wp2;go_region;go_wp2;go_region_held3 (fun w'=>w'.cell? ⟨c.bp,1,none⟩=some (.int .i64 at_)∧w'.cell? ⟨w.heap.size+1,1,none⟩=some (.string raw)∧w'.cell? ⟨w.heap.size+1,3,none⟩=some (.int .u64 num)) ((repeat' with_reducible apply And.intro)<;>first|((repeat(with_reducible(first|assumption|apply bP|apply aD)));done)|(go_keep;done)) (fail);go_wp2
 all_goals(refine qh (v:= .agg #[.int .i64 kind,.int .i64 at_,.int .i64 at_,.string (au ⟨k,raw,val,num,item⟩),.int .u64 num,.slice none 0 0]) ?_ rfl ?_)
 all_goals clear c0 c1 f1 d0 d1 d2 d3 d4 hb1 hb2 hb3 HT
 all_goals first
  |(refine⟨rfl,PSt.keep (PSt.move HP HK) ?_,?_⟩
    ·repeat(first|exact Fr.refl _|with_reducible apply Fr.drew|with_reducible apply Fr.alloc)
    ·repeat(first|exact Fr.refl _|with_reducible apply Fr.drew|with_reducible apply Fr.alloc|with_reducible refine Fr.setIn ?_ _ rfl))
  |skip
 all_goals simp_all [results,results26,go_sem,au]
end Go.Proofs.YtnclklfhjbkjhaaGreatDoor
namespace Go.Proofs.YtnclklfhjbkjhaaGreatDoor
open Tryz
open Go.RowKit
structure Nd where
 kind:Int
 first:Int
 last:Int
 text:ByteArray
 num:Int
 ka:Option Addr
 kn:Nat
 kc:Nat
def Nd.arr(d:Nd):Array Value:=#[.int .i64 d.kind,.int .i64 d.first,.int .i64 d.last,.string d.text,.int .u64 d.num,.slice d.ka d.kn d.kc]
def Nd.cells(d:Nd):List Value:=d.arr.toList
def eZ(l:List Nd):List Value:=l.flatMap Nd.cells
theorem nv(a b:List Nd):eZ (a++b)=eZ a++eZ b:=by simp[eZ]
theorem c7(a:List Nd):(eZ a).length=a.length*6:=by
 induction a with
 |nil=>rfl
 |cons x r ih=>simp only[eZ,List.flatMap_cons,qk,List.length_cons] at*;rw[ih];simp[Nd.cells,Nd.arr];omega
theorem lX(a:List Nd):∀ (i:Nat) (h:i<a.length) (j:Nat),j<6→(eZ a)[i*6+j]? =(a[i]).cells[j]? :=by
 induction a with
 |nil=>intro i h;simp at h
 |cons x r ih=>
  intro i h j hj;cases i with
  |zero=>simp only[eZ,List.flatMap_cons];rw[List.getElem?_append_left (by simp[Nd.cells,Nd.arr];omega)];simp
  |succ i=>
   have h':i<r.length:=by simpa using h
   have:=ih i h' j hj;simp only[eZ,List.flatMap_cons] at*
   rw[List.getElem?_append_right (by simp[Nd.cells,Nd.arr];omega)];rw[show(i+1) *6+j-x.cells.length=i*6+j from by simp[Nd.cells,Nd.arr];omega,this];simp
theorem cF(b j:Nat):(⟨b,0,none⟩:Addr).add j=⟨b,j,none⟩:=by
 unfold Addr.add;split<;>simp_all
def KOwn(B:Nat)(w:World)(v:Value)(l:List Nd):Prop:=w.ownsRow B 26 6 v l.length (eZ l)
theorem KOwn.nil(B:Nat)(w:World):KOwn B w (.slice none 0 0) []:=World.ownsRow_nil w B 26 6
theorem KOwn.kept{B:Nat}{w w':World}{v:Value}{l:List Nd}{S:Nat→Prop}(h:KOwn B w v l)(k:Fr S w w')(hs:∀g,v.ownBlock=some g→¬S g):KOwn B w' v l:=by
 refine⟨h.1,?_⟩;rcases h.2 with hn|⟨g,cap,cur,rfl,hb,hgg,rest⟩
 ·exact .inl hn
 ·exact .inr ⟨g,cap,cur,rfl,hb,k.blk (hs g rfl) hgg,rest⟩
theorem KOwn.keep{B:Nat}{w w':World}{v:Value}{l:List Nd}(h:KOwn B w v l)(k:Keep w w'):KOwn B w' v l:=h.kept k fun _ _ x=>x
theorem KOwn.lt{B:Nat}{w:World}{v:Value}{l:List Nd}(h:KOwn B w v l){g:Nat}(hg:v.ownBlock=some g):B≤g∧g<w.heap.size:=World.ownsRow.lt h g hg
theorem KOwn.form{B:Nat}{w:World}{v:Value}{l:List Nd}(h:KOwn B w v l):∃ka kc,v= .slice ka l.length kc∧l.length≤kc:=by
 rcases h.2 with⟨rfl,h0⟩|⟨g,cap,cur,rfl,_,_,hc,_⟩
 ·exact⟨none,0,by rw[h0],by omega⟩
 ·exact⟨_,_,rfl,hc⟩
theorem KOwn.big{B:Nat}{w:World}{v:Value}{l:List Nd}(h:KOwn B w v l)(hl:l≠[]):∃g kc,v= .slice (some ⟨g,0,none⟩) l.length kc∧B≤g∧l.length≤kc∧g<w.heap.size:=by
 rcases h.2 with⟨rfl,h0⟩|⟨g,cap,cur,rfl,hb,hg,hc,_⟩
 ·exact absurd (List.eq_nil_of_length_eq_zero h0) hl
 ·exact⟨g,cap,rfl,hb,hc,af hg⟩
theorem KOwn.cell{B g n kc:Nat}{w:World}{l:List Nd}(h:KOwn B w (.slice (some ⟨g,0,none⟩) n kc) l)(i:Nat)(hi:i<l.length)(j:Nat)(hj:j<6):w.cell? ⟨g,i*6+j,none⟩=(l[i]).cells[j]? :=by
 obtain⟨u,hu⟩:∃u,(l[i]).cells[j]? =some u:=by
  have:j< (l[i]).cells.length:=by simpa[Nd.cells,Nd.arr] using hj
  exact⟨_,List.getElem?_eq_getElem this⟩
 have:=World.ownsRow.cells h (g:=g) rfl (i*6+j) u (by rw[lX l i hi j hj,hu]);rw[hu,←this,cF]
theorem KOwn.new{B:Nat}{w:World}(l:List Nd)(arr:Array Value)(ha:arr.toList=eZ l)(hsm:l.length≤1000000)(hB:B≤w.heap.size):KOwn B (w.alloc (.cells arr 26)) (.slice (some ⟨w.heap.size,0,none⟩) l.length l.length) l:=by
 refine⟨c7 l,.inr ⟨w.heap.size,l.length,arr,rfl,hB,ql w _,Nat.le_refl _,by unfold maxLen;omega,?_,?_⟩⟩
 ·rw[←Array.length_toList,ha,c7]
 ·rw[ha,List.take_of_length_le (by rw[c7];omega)]
def KF(bp:Nat)(v:Value)(k:Nat):Prop:=k=bp∨v.ownBlock=some k
def OwnStep(w:World)(v v':Value):Prop:=∀g,v'.ownBlock=some g→v.ownBlock=some g∨w.heap.size≤g
theorem OwnStep.refl(w:World)(v:Value):OwnStep w v v:=fun _ h=> .inl h
theorem OwnStep.trans{w w':World}{v v' v'':Value}(h:OwnStep w v v')(h':OwnStep w' v' v'')(hs:w.heap.size≤w'.heap.size):OwnStep w v v'':=fun g hg=>by
 rcases h' g hg with e|e
 ·exact h g e
 ·exact .inr (by omega)
theorem Fr.up{S:Nat→Prop}{w w':World}(h:Fr (fun _=>False) w w'):Fr S w w':=h.mono fun _ _ x=>x.elim
theorem Fr.drewN{S:Nat→Prop}{a w:World}(h:Fr S a w)(n:Nat):Fr S a (w.drewN n):=⟨h.os,h.tape,h.output,h.size,h.block⟩
theorem Fr.andThen{S S':Nat→Prop}{a w w':World}(h:Fr S a w)(k:Fr S' w w')(hs:∀i,i<a.heap.size→S' i→S i):Fr S a w':=
 ⟨k.os.trans h.os,k.tape.trans h.tape,k.output.trans h.output,Nat.le_trans h.size k.size,fun i hi hn=>(k.block i (Nat.lt_of_lt_of_le hi h.size) (fun e=>hn (hs i hi e))).trans (h.block i hi hn)⟩
theorem Fr.ofGrown{w w':World}{row:Option Nat}(h:w.grownBy w' row):Fr (fun k=>row=some k) w w':=
 ⟨h.os,h.tape,h.output,h.size,fun k hk hn=>h.block k hk (fun e=>hn e.symm)⟩
theorem uO:(prog.info? 26).map (fun i=>(i.zero,i.size,i.bytes))=some (some (.agg #[.int .i64 0,.int .i64 0,.int .i64 0,.string ⟨#[]⟩,.int .u64 0,.slice none 0 0]),6,72):=by kernel_rfl
section
variable {ops:Array Oper} {rest:List Oper} {Q:Exit→Act→World→Prop} {a:Act} {w:World} {pos:String} {after:Array Edge} {ty:TypeId}
theorem stepApp{K:Act→World→Prop}{E:Prop}{o:Oper}(hgd:o.guard=none)(s x:Operand)(ho:o.op= .call {callee:= .builtin .append,args:=#[s,x],argTypes:=#[24,24]})
  {B:Nat} {v:Value} {l:List Nd} (hs:a.eval s=v) (hown:KOwn B w v l) (b:Nat) (l':List Nd) (hl':l'≠[]) {m c:Nat} (hx:a.eval x= .slice (some ⟨b,0,none⟩) m c) (hm:m=l'.length) (hc:∀i (hi:i<l'.length) j,j<6→w.cell? ⟨b,i*6+j,none⟩=(l'[i]).cells[j]?) (hsm:l.length+l'.length≤10000000) (hB:B≤w.heap.size)
  (h:∀g kc w',KOwn B w' (.slice (some ⟨g,0,none⟩) (l++l').length kc) (l++l')→Fr (fun k=>v.ownBlock=some k) w w'→OwnStep w v (.slice (some ⟨g,0,none⟩) (l++l').length kc)→K (a.put o.dst (.slice (some ⟨g,0,none⟩) (l++l').length kc)) w'):
  if Region.wanted o (yielded ops a.tmps)=true then Oper.wp prog o a w K Q else E:=by
 obtain⟨i0,hi,hz0,hz1,hz2⟩:=info_parts uO;subst hm;have hl1:l'.length≠0:=fun e=>hl' (List.eq_nil_of_length_eq_zero e)
 refine step_append_lies w hgd s x 24 ho B 26 i0 _ 6 72 underlying24 hi hz0 hz1 hz2 rfl (by omega) v l.length (eZ l) hs hown ⟨b,0,none⟩ l'.length c (eZ l') hx (by rw[c7]) ?_ ?_ (by omega) (by unfold maxLen;omega) (by omega) hB w.heap.size rfl ?_
 ·intro j u hu;have hj:j<l'.length*6:=by
   have:=(List.getElem?_eq_some_iff.1 hu).1
   rwa [c7] at this
  have e:=Nat.div_add_mod j 6;have h1:j/6<l'.length:=by omega
  have h2:j%6<6:=Nat.mod_lt _ (by omega);have e':j/6*6+j%6=j:=by omega
  have:=hc (j/6) h1 (j%6) h2;rw[←lX l' (j/6) h1 (j%6) h2,e',hu] at this;rw[←this,cF]
 ·intro u hu;simp only[eZ,List.mem_flatMap] at hu;obtain⟨d,_,hd⟩:=hu;simp only[Nd.cells,Nd.arr,List.mem_cons,List.not_mem_nil,or_false] at hd;rcases hd with rfl|rfl|rfl|rfl|rfl|rfl<;>rfl
 ·intro g cap w' h1 h2 h3 h4;have e:l.length+l'.length=(l++l').length:=by simp
  rw[e] at h1 ⊢;refine h g cap w' ?_ (Fr.ofGrown h2) ?_
  ·unfold KOwn;rw[nv];exact h1
  ·intro k hk;have hk':g=k:=Option.some.inj hk;subst hk';rcases h3 with h3|h3
   ·exact .inl h3
   ·exact .inr (by omega)
theorem bs1{d t:Tmp}{k f l n:Int}{tx:ByteArray}{ka:Option Addr}{kn kc:Nat}
  (ht:a.tmps.getD t undef= .agg #[.int .i64 k,.int .i64 f,.int .i64 l,.string tx,.int .u64 n,.slice ka kn kc])
  (next:wpList prog ops Q rest (a.put (some d) (.slice (some ⟨w.heap.size,0,none⟩) 1 1)) (w.alloc (.cells #[.int .i64 k,.int .i64 f,.int .i64 l,.string tx,.int .u64 n,.slice ka kn kc] 26))):
  wpList prog ops Q ({dst:=some d,op:= .buildSlice 24 1 #[(0,.tmp t)],type:=ty,pos:=pos,after:=after,guard:=none} ::rest) a w:=by
 refine wpList_plain rfl fun K hK=>?_
 have ht':a.tmps[t]?.getD undef= .agg #[.int .i64 k,.int .i64 f,.int .i64 l,.string tx,.int .u64 n,.slice ka kn kc]:=by simpa using ht
 unfold Oper.wp;simp[execOp,Act.eval,ht',go_sem];exact hK _ _ next
theorem bs2{d t t':Tmp}{k f l n k' f' l' n':Int}{tx tx':ByteArray}{ka ka':Option Addr}{kn kc kn' kc':Nat}
  (ht:a.tmps.getD t undef= .agg #[.int .i64 k,.int .i64 f,.int .i64 l,.string tx,.int .u64 n,.slice ka kn kc])
  (ht':a.tmps.getD t' undef= .agg #[.int .i64 k',.int .i64 f',.int .i64 l',.string tx',.int .u64 n',.slice ka' kn' kc'])
  (next:wpList prog ops Q rest (a.put (some d) (.slice (some ⟨w.heap.size,0,none⟩) 2 2)) (w.alloc (.cells #[.int .i64 k,.int .i64 f,.int .i64 l,.string tx,.int .u64 n,.slice ka kn kc,.int .i64 k',.int .i64 f',.int .i64 l',.string tx',.int .u64 n',.slice ka' kn' kc'] 26))):
  wpList prog ops Q ({dst:=some d,op:= .buildSlice 24 2 #[(0,.tmp t),(1,.tmp t')],type:=ty,pos:=pos,after:=after,guard:=none} ::rest) a w:=by
 refine wpList_plain rfl fun K hK=>?_
 have h1:a.tmps[t]?.getD undef= .agg #[.int .i64 k,.int .i64 f,.int .i64 l,.string tx,.int .u64 n,.slice ka kn kc]:=by simpa using ht
 have h2:a.tmps[t']?.getD undef= .agg #[.int .i64 k',.int .i64 f',.int .i64 l',.string tx',.int .u64 n',.slice ka' kn' kc']:=by simpa using ht'
 unfold Oper.wp;simp[execOp,Act.eval,h1,h2,go_sem];exact hK _ _ next
theorem app1{d d' s t:Tmp}{k f l n:Int}{tx:ByteArray}{ka:Option Addr}{kn kc:Nat}{B:Nat}{v:Value}{ns:List Nd}{ty':TypeId}{pos':String}{after':Array Edge}
  (hown:KOwn B w v ns) (hB:B≤w.heap.size) (hsm:ns.length≤1000000) (hd:d<a.tmps.size) (hsd:s≠d)
  (hs:a.tmps.getD s undef=v) (ht:a.tmps.getD t undef= .agg #[.int .i64 k,.int .i64 f,.int .i64 l,.string tx,.int .u64 n,.slice ka kn kc])
  (next:∀v' w',KOwn B w' v' (ns++ [Nd.mk k f l tx n ka kn kc])→Fr (fun k=>v.ownBlock=some k) w w'→OwnStep w v v'→
   wpList prog ops Q rest ((a.put (some d) (.slice (some ⟨w.heap.size,0,none⟩) 1 1)).put (some d') v') w'):
  wpList prog ops Q ({dst:=some d,op:= .buildSlice 24 1 #[(0,.tmp t)],type:=ty,pos:=pos,after:=after,guard:=none} ::
   {dst:=some d',op:= .call {callee:= .builtin .append,args:=#[.tmp s,.tmp d],argTypes:=#[24,24]},type:=ty',pos:=pos',after:=after',guard:=none} ::rest) a w:=by
 refine bs1 ht (wpList_step fun K hK=>?_);have hnew:(w.alloc (.cells #[.int .i64 k,.int .i64 f,.int .i64 l,.string tx,.int .u64 n,.slice ka kn kc] 26)).heap[w.heap.size]? =_:=ql w _;have kp:Keep w (w.alloc (.cells #[.int .i64 k,.int .i64 f,.int .i64 l,.string tx,.int .u64 n,.slice ka kn kc] 26)):=(Fr.refl w).alloc _;refine stepApp rfl (.tmp s) (.tmp d) rfl (B:=B) (v:=v) (l:=ns) ?_ (hown.keep kp) w.heap.size [Nd.mk k f l tx n ka kn kc] (by simp) (m:=1) (c:=1) ?_ rfl ?_ (by simp;omega) (by simp;omega) ?_
 ·have:(a.tmps.setIfInBounds d (.slice (some ⟨w.heap.size,0,none⟩) 1 1))[s]?.getD undef=v:=by
   rw[Array.getElem?_setIfInBounds,if_neg (Ne.symm hsd)];simpa using hs
  simpa[Act.eval,Act.put] using this
 ·simp[Act.eval,Act.put,hd]
 ·intro i hi j hj;have hi0:i=0:=by simpa using hi
  subst hi0;rw[show 0*6+j=j from by omega,ab hnew j];simp[Nd.cells,Nd.arr]
 ·intro g gc w' h1 h2 h3;refine hK _ _ (next _ w' h1 ((Fr.refl w).andThen (kp.fr.trans h2) (fun i _ h=>h)) ?_);intro x hx;rcases h3 x hx with e|e
  ·exact .inl e
  ·exact .inr (by simp at e;omega)
theorem node_any(B:Nat)(kind:Int)(v:Value)(l:List Nd)(w:World)(h:KOwn B w v l)(hl:l≠[])(hsm:l.length≤1000000):
  Calls prog 27 #[.int .i64 kind,v] w fun e w'=>e= .returned (.agg #[.int .i64 kind,.int .i64 (l.head hl).first,.int .i64 (l.getLast hl).last,.string ⟨#[]⟩,.int .u64 0,v])∧Keep w w':=by
 obtain⟨g,kc,rfl,hB,hc,hg⟩:=h.big hl;have hpos:0<l.length:=List.length_pos_iff.2 hl;have e0:=h.cell 0 hpos 1 (by omega);have e1:=h.cell (l.length-1) (by omega) 2 (by omega);rw[show l[0]=l.head hl from(List.head_eq_getElem hl).symm] at e0;rw[show l[l.length-1]=l.getLast hl from(List.getLast_eq_getElem hl).symm] at e1;generalize hn:l.length=n at*
 generalize l.head hl=d0 at*
 generalize l.getLast hl=d1 at*
 clear h hn hl;obtain⟨m,rfl⟩:∃m,n=m+1:=⟨n-1,by omega⟩;simp only[Nat.add_sub_cancel] at e1;have e0':w.cell? ⟨g,1,none⟩=some (.int .i64 d0.first):=e0;have e1':w.cell? ⟨g,m*6+2,none⟩=some (.int .i64 d1.last):=e1;clear e0 e1;have h0:(0:Int) < (m:Int)+1:=by omega
 have h1:(0:Int)≤(m:Int):=by omega
 go_enter func27,ntmps27;go_wp2;go_region;go_wp2;refine qh (v:= .agg #[.int .i64 kind,.int .i64 d0.first,.int .i64 d1.last,.string ⟨#[]⟩,.int .u64 0,.slice (some ⟨g,0,none⟩) (m+1) kc]) (by simp[results,results27,go_sem]) rfl ⟨rfl,?_⟩
 repeat(first|exact Fr.refl _|with_reducible apply Fr.drew|with_reducible apply Fr.alloc)
end
end Go.Proofs.YtnclklfhjbkjhaaGreatDoor
namespace Go.Proofs.YtnclklfhjbkjhaaGreatDoor
def fY:List UInt8:=[105,109,112,111,114,116]
def eI:List UInt8:=[112,97,99,107,97,103,101]
def ci(st:List UInt8)(ds:Bool)(t:Tk):Option (List UInt8×Bool):=
 if t.kind=5 then
  match t.raw.toList with
  | [40]=>some (41::st,false)
  | [123]=>some (125::st,false)
  | [91]=>some (93::st,false)
  | [60]=>some (62::st,false)
  | [41]=>if st.head?=some 41 then some (st.tail,false) else none
  | [125]=>if st.head?=some 125 then some (st.tail,true) else none
  | [93]=>if st.head?=some 93 then some (st.tail,false) else none
  | [62]=>if st.head?=some 62 then some (st.tail,false) else none
  | [59]=>some (st,true)
  |_=>some (st,false)
 else if t.kind=1 then
  if ds&&st.isEmpty&& (t.raw.toList==fY||t.raw.toList==eI) then none else some (st,false)
 else if t.kind=6 then none else some (st,false)
def dJ(ts:List Tk):Nat→Nat→List UInt8×Bool→Option (List UInt8×Bool)
 |_,0,σ=>some σ
 |i,n+1,σ=>(ci σ.1 σ.2 (tk ts i)).bind (dJ ts (i+1) n)
theorem mT(ts:List Tk):∀ (n:Nat) (i m:Nat) (σ:List UInt8×Bool),dJ ts i (n+m) σ=(dJ ts i n σ).bind (dJ ts (i+n) m)
 |0,i,m,σ=>by simp[dJ]
 |n+1,i,m,σ=>by
  rw[show n+1+m=(n+m)+1 from by omega];simp only[dJ];cases ci σ.1 σ.2 (tk ts i) with
  |none=>rfl
  |some τ=>
   simp only[Option.bind_some];rw[mT ts n (i+1) m τ,show i+1+n=i+(n+1) from by omega]
def NGa(ts:List Tk)(m:Nat):Prop:=¬ ((tk ts (m-1)).kind=2∧aH (tk ts m) ⟨#[45]⟩=true)
structure Seg(ts:List Tk)(i j:Nat):Prop where
 le:i≤j
 ng:∀m,i<m→m<j→NGa ts m
theorem Seg.trans{ts:List Tk}{i j k:Nat}(h:Seg ts i j)(h':Seg ts j k)(g:NGa ts j):Seg ts i k:=
 ⟨Nat.le_trans h.le h'.le,fun m h1 h2=>by
  rcases Nat.lt_trichotomy m j with e|e|e
  ·exact h.ng m h1 e
  ·rw[e];exact g
  ·exact h'.ng m e h2⟩
theorem Seg.one{ts:List Tk}{i:Nat}:Seg ts i (i+1):=⟨by omega,fun m h1 h2=>by omega⟩
theorem Seg.nil{ts:List Tk}{i:Nat}:Seg ts i i:=⟨by omega,fun m h1 h2=>by omega⟩
theorem Seg.trans_nil{ts:List Tk}{i k:Nat}(h':Seg ts i k):Seg ts i k:=h'
structure Out(ts:List Tk)(i j:Nat):Prop where
 seg:Seg ts i j
 run:∀st ds,(st≠[]∨ds=false)→dJ ts i (j-i) (st,ds)=some (st,false)
structure SetR(ts:List Tk)(i j:Nat):Prop where
 seg:Seg ts i j
 run:∀st ds,(st≠[]∨ds=false)→∃ds',dJ ts i (j-i) (st,ds)=some (st,ds')
structure InR(ts:List Tk)(i j:Nat):Prop where
 seg:Seg ts i j
 run:∀st ds,st≠[]→∃ds',dJ ts i (j-i) (st,ds)=some (st,ds')
structure Dcl(ts:List Tk)(i j:Nat):Prop where
 seg:Seg ts i j
 run:∀st ds,dJ ts i (j-i) (st,ds)=some (st,true)
 last:(tk ts (j-1)).kind≠2
theorem bZ{ts:List Tk}{i j k:Nat}(h1:i≤j)(h2:j≤k)(σ:List UInt8×Bool):dJ ts i (k-i) σ=(dJ ts i (j-i) σ).bind (dJ ts j (k-j)):=by
 rw[show k-i=(j-i)+(k-j) from by omega,mT,show i+(j-i)=j from by omega]
theorem Out.set{ts:List Tk}{i j:Nat}(h:Out ts i j):SetR ts i j:=⟨h.seg,fun st ds hs=>⟨false,h.run st ds hs⟩⟩
theorem SetR.inr{ts:List Tk}{i j:Nat}(h:SetR ts i j):InR ts i j:=⟨h.seg,fun st ds hs=>h.run st ds (.inl hs)⟩
theorem Dcl.inr{ts:List Tk}{i j:Nat}(h:Dcl ts i j):InR ts i j:=⟨h.seg,fun st ds _=>⟨true,h.run st ds⟩⟩
theorem Out.trans{ts:List Tk}{i j k:Nat}(h:Out ts i j)(h':Out ts j k)(g:NGa ts j):Out ts i k:=
 ⟨h.seg.trans h'.seg g,fun st ds hs=>by
  rw[bZ h.seg.le h'.seg.le,h.run st ds hs];exact h'.run st false (.inr rfl)⟩
theorem Out.trans_set{ts:List Tk}{i j k:Nat}(h:Out ts i j)(h':SetR ts j k)(g:NGa ts j):SetR ts i k:=
 ⟨h.seg.trans h'.seg g,fun st ds hs=>by
  rw[bZ h.seg.le h'.seg.le,h.run st ds hs];exact h'.run st false (.inr rfl)⟩
theorem InR.trans{ts:List Tk}{i j k:Nat}(h:InR ts i j)(h':InR ts j k)(g:NGa ts j):InR ts i k:=
 ⟨h.seg.trans h'.seg g,fun st ds hs=>by
  obtain⟨d,e⟩:=h.run st ds hs;rw[bZ h.seg.le h'.seg.le,e];exact h'.run st d hs⟩
theorem InR.nil{ts:List Tk}{i:Nat}:InR ts i i:=⟨Seg.nil,fun st ds _=>⟨ds,by simp[dJ]⟩⟩
theorem cZ(ts:List Tk)(i:Nat)(σ:List UInt8×Bool):dJ ts i 1 σ=ci σ.1 σ.2 (tk ts i):=by
 simp[dJ]
theorem pz{t:Tk}(hw:iC t){s:ByteArray}{b:UInt8}(hs:s.toList=[b])(hb:¬ (b=95∨(97≤b∧b≤122)∨(65≤b∧b≤90)))(h:aH t s=true):t.kind=5∧t.raw.toList=[b]:=by
 have hr:=(dF h).trans hs;rcases gr h with e|e
 ·obtain⟨c,r,h1,h2⟩:=hw.1 e;rw[hr] at h1;cases h1;exact absurd h2 hb
 ·exact⟨e,hr⟩
theorem gq{t:Tk}(hw:iC t){s:ByteArray}(hs:s.toList.length≠1)(h:aH t s=true):t.kind=1∧t.raw.toList=s.toList:=by
 have hr:=dF h;rcases gr h with e|e
 ·exact⟨e,hr⟩
 ·obtain⟨c,h1,h2⟩:=hw.2 e;rw[hr] at h1;exact absurd (by rw[h1];rfl) hs
theorem Out.plain{ts:List Tk}{i:Nat}(h:(tk ts i).kind=1∨(tk ts i).kind=2∨(tk ts i).kind=3∨(tk ts i).kind=4):Out ts i (i+1):=
 ⟨Seg.one,fun st ds hs=>by
  rw[show i+1-i=1 from by omega,cZ];unfold ci;rcases h with e|e|e|e<;>simp[e]
  intro h1 h2;rcases hs with hs|hs
  ·exact absurd h2 hs
  ·rw[hs] at h1;cases h1⟩
theorem Out.sym{ts:List Tk}{i:Nat}{b:UInt8}(h:(tk ts i).kind=5∧(tk ts i).raw.toList=[b])(hb:b≠40∧b≠123∧b≠91∧b≠60∧b≠41∧b≠125∧b≠93∧b≠62∧b≠59):Out ts i (i+1):=
 ⟨Seg.one,fun st ds hs=>by
  rw[show i+1-i=1 from by omega,cZ];unfold ci;rw[if_pos h.1,h.2];obtain⟨h1,h2,h3,h4,h5,h6,h7,h8,h9⟩:=hb;split<;>simp_all⟩
theorem oh{t:Tk}{b c:UInt8}(h:t.kind=5∧t.raw.toList=[b])(hb:(b=40∧c=41)∨(b=123∧c=125)∨(b=91∧c=93)∨(b=60∧c=62))(st:List UInt8)(ds:Bool):
  ci st ds t=some (c::st,false):=by
 unfold ci;rw[if_pos h.1,h.2];rcases hb with⟨rfl,rfl⟩|⟨rfl,rfl⟩|⟨rfl,rfl⟩|⟨rfl,rfl⟩<;>rfl
theorem mS{t:Tk}{c:UInt8}(h:t.kind=5∧t.raw.toList=[c])(hc:c=41∨c=125∨c=93∨c=62)(st:List UInt8)(ds:Bool):
  ci (c::st) ds t=some (st,c==125):=by
 unfold ci;rw[if_pos h.1,h.2];rcases hc with rfl|rfl|rfl|rfl<;>rfl
theorem jg{t:Tk}(h:t.kind=5∧t.raw.toList=[59])(st:List UInt8)(ds:Bool):ci st ds t=some (st,true):=by
 unfold ci;rw[if_pos h.1,h.2];rfl
theorem gM{ts:List Tk}{i j:Nat}{b c:UInt8}(hi:(tk ts i).kind=5∧(tk ts i).raw.toList=[b])(hj:(tk ts j).kind=5∧(tk ts j).raw.toList=[c])
  (hb:(b=40∧c=41)∨(b=123∧c=125)∨(b=91∧c=93)∨(b=60∧c=62)) (h:InR ts (i+1) j) (st:List UInt8) (ds:Bool):
  dJ ts i (j+1-i) (st,ds)=some (st,c==125):=by
 have hle:=h.seg.le;rw[bZ (j:=i+1) (by omega) (by omega),show i+1-i=1 from by omega,cZ,oh hi hb];simp only[Option.bind_some];obtain⟨d,e⟩:=h.run (c::st) false (by simp);rw[bZ (j:=j) hle (by omega),e];simp only[Option.bind_some];rw[show j+1-j=1 from by omega,cZ];exact mS hj (by rcases hb with h|h|h|h<;>simp[h.2]) st d
theorem NGa.prev{ts:List Tk}{m:Nat}(h:(tk ts (m-1)).kind≠2):NGa ts m:=fun e=>h e.1
theorem NGa.next{ts:List Tk}{m:Nat}{b:UInt8}(h:(tk ts m).raw.toList=[b])(hb:b≠45):NGa ts m:=fun e=>by
 have:=(dF e.2).symm.trans h;have h2:(⟨#[45]⟩:ByteArray).toList=[45]:=by decide+kernel
 rw[h2] at this;cases this;exact hb rfl
theorem NGa.nextWord{ts:List Tk}{m:Nat}(hw:iC (tk ts m))(h:(tk ts m).kind≠5):NGa ts m:=fun e=>by
 have h2:(⟨#[45]⟩:ByteArray).toList=[45]:=by decide+kernel
 exact h (pz hw h2 (by decide) e.2).1
theorem iR{ts:List Tk}{i j:Nat}{b c:UInt8}(hi:(tk ts i).kind=5∧(tk ts i).raw.toList=[b])(hj:(tk ts j).kind=5∧(tk ts j).raw.toList=[c])(hc:c≠45)(h:Seg ts (i+1) j):Seg ts i (j+1):=
 (Seg.one.trans h (NGa.prev (by rw[show i+1-1=i from by omega,hi.1];decide))).trans Seg.one (NGa.next hj.2 hc)
theorem Out.wrap{ts:List Tk}{i j:Nat}{b c:UInt8}(hi:(tk ts i).kind=5∧(tk ts i).raw.toList=[b])(hj:(tk ts j).kind=5∧(tk ts j).raw.toList=[c])
  (hb:(b=40∧c=41)∨(b=91∧c=93)∨(b=60∧c=62)) (h:InR ts (i+1) j):Out ts i (j+1):=
 ⟨iR hi hj (by rcases hb with h|h|h<;>simp[h.2]) h.seg,fun st ds _=>by
  rw[gM hi hj (by rcases hb with h|h|h<;>simp[h]) h];rcases hb with h|h|h<;>simp[h.2]⟩
theorem SetR.wrap{ts:List Tk}{i j:Nat}{b c:UInt8}(hi:(tk ts i).kind=5∧(tk ts i).raw.toList=[b])(hj:(tk ts j).kind=5∧(tk ts j).raw.toList=[c])
  (hb:(b=40∧c=41)∨(b=123∧c=125)∨(b=91∧c=93)∨(b=60∧c=62)) (h:InR ts (i+1) j):SetR ts i (j+1):=
 ⟨iR hi hj (by rcases hb with h|h|h|h<;>simp[h.2]) h.seg,fun st ds _=>⟨_,gM hi hj hb h st ds⟩⟩
theorem Dcl.of_brace{ts:List Tk}{i j k:Nat}(hw:(tk ts i).kind=1)(hn:(tk ts i).raw.toList≠fY∧(tk ts i).raw.toList≠eI)
  (h:Out ts (i+1) j) (hj:(tk ts j).kind=5∧(tk ts j).raw.toList=[123]) (hk:(tk ts k).kind=5∧(tk ts k).raw.toList=[125]) (hin:InR ts (j+1) k):Dcl ts i (k+1):=by
 have l1:=h.seg.le;have l2:=hin.seg.le;refine⟨(Seg.one.trans h.seg (NGa.prev (by rw[show i+1-1=i from by omega,hw];decide))).trans (iR hj hk (by decide) hin.seg) (NGa.next hj.2 (by decide)),fun st ds=>?_,?_⟩
 ·rw[bZ (j:=i+1) (by omega) (by omega),show i+1-i=1 from by omega,cZ];have e:ci st ds (tk ts i)=some (st,false):=by
   unfold ci;simp[hw,hn.1,hn.2]
  rw[e];simp only[Option.bind_some];rw[bZ (j:=j) l1 (by omega),h.run st false (.inr rfl)];simp only[Option.bind_some];rw[gM hj hk (by simp) hin];rfl
 ·rw[show k+1-1=k from by omega,hk.1];decide
theorem Dcl.of_semi{ts:List Tk}{i j:Nat}(hw:(tk ts i).kind=1)(hn:(tk ts i).raw.toList≠fY∧(tk ts i).raw.toList≠eI)
  (h:SetR ts (i+1) j) (hj:(tk ts j).kind=5∧(tk ts j).raw.toList=[59]):Dcl ts i (j+1):=by
 have l1:=h.seg.le;refine⟨(Seg.one.trans h.seg (NGa.prev (by rw[show i+1-1=i from by omega,hw];decide))).trans Seg.one (NGa.next hj.2 (by decide)),fun st ds=>?_,?_⟩
 ·rw[bZ (j:=i+1) (by omega) (by omega),show i+1-i=1 from by omega,cZ];have e:ci st ds (tk ts i)=some (st,false):=by
   unfold ci;simp[hw,hn.1,hn.2]
  rw[e];simp only[Option.bind_some];obtain⟨d,e⟩:=h.run st false (.inr rfl);rw[bZ (j:=j) l1 (by omega),e];simp only[Option.bind_some];rw[show j+1-j=1 from by omega,cZ];exact jg hj st d
 ·rw[show j+1-1=j from by omega,hj.1];decide
theorem Dcl.empty{ts:List Tk}{i:Nat}(hj:(tk ts i).kind=5∧(tk ts i).raw.toList=[59]):Dcl ts i (i+1):=
 ⟨Seg.one,fun st ds=>by rw[show i+1-i=1 from by omega,cZ];exact jg hj st ds,by rw[show i+1-1=i from by omega,hj.1];decide⟩
end Go.Proofs.YtnclklfhjbkjhaaGreatDoor
namespace Go.Proofs.YtnclklfhjbkjhaaGreatDoor
open Tryz
open Go.RowKit
theorem bh(c:PC)(at_:Nat)(mild:Bool)(w:World)(h:PSt c at_ mild w):
  Calls prog 57 #[.pointer (some ⟨c.bp,0,none⟩)] w (PPost c w):=by
 have HP:=Z h;obtain⟨hb,hbt,hat,hsm,c0,c1,c2,c3,f1,f2,f3,-,-,-,-,-⟩:=h.facts;clear h c0 c1 f1 f3 hbt hat hsm;cases mild
 all_goals
  go_enter func57,ntmps57;go_wp2
 ·exact⟨rfl,_,rfl,⟨rfl,_,_,_,1,by decide,HP.setHow 1⟩,(Fr.refl w).setIn _ rfl⟩
 ·exact⟨rfl,_,rfl,⟨rfl,_,_,_,2,by decide,by rw[ag (HP.setHow 1)];rfl⟩,Fr.setIn (S:=(· =c.bp)) (Fr.setIn (S:=(· =c.bp)) (Fr.refl w) _ rfl) _ rfl⟩
theorem ap(c:PC)(at_:Nat)(mild:Bool)(w:World)(h:PSt c at_ mild w):
  Calls prog 25 #[.pointer (some ⟨c.bp,0,none⟩)] w (PPost c w):=by
 have HP:=Z h;obtain⟨hb,hbt,hat,hsm,c0,c1,c2,c3,f1,f2,f3,-,-,-,-,-⟩:=h.facts;clear h c0 c1 f1 f3 hbt hat hsm;go_enter func25,ntmps25;go_wp2;exact⟨rfl,_,rfl,⟨rfl,_,_,_,2,by decide,HP.setHow 2⟩,(Fr.refl w).setIn _ rfl⟩
theorem eJ(c:PC)(s:ByteArray)(at_:Nat)(mild:Bool)(w:World)(h:PSt c at_ mild w):
  Calls prog 48 #[.pointer (some ⟨c.bp,0,none⟩),.string s] w (RPost c 39 s at_ mild w):=by
 go_enter func48,ntmps48;go_wp2_with fail;refine(bG c s at_ mild _ (h.keep ((Fr.refl _).alloc _))).mono ?_;rintro e w1 ⟨rfl,k1⟩;have hb:=h.bp;have hbt:=h.bt;have h1:=h.keep (((Fr.refl w).alloc _).keep k1);have F1:Fr (· =c.bp) w w1:=((Fr.refl w).alloc _).keep k1;have z1:=k1.blk (ql w _);by_cases hs:aH (tk c.ts at_) s=true
 ·go_wp2_with fail;refine(eT c 39 at_ mild _ h1 (bH hs)).mono ?_;rintro e w2 ⟨rfl,h2,F2⟩;have z2:=F2.blk (by omega) z1;clear z1;go_wp2_with (refine aw z2 rfl rfl rfl ?_);refine qh (aN rfl (setRow_heap _ _ _ _ _ _ z2) rfl) rfl ?_;exact .inl ⟨hs,by rw[jm hs],h2.setRow _ _ (by omega) (by omega),(F1.trans F2).setRow _ _ qr⟩
 ·go_wp2_with fail;refine(bh c at_ mild _ h1).mono ?_;rintro e w2 ⟨ch,rfl,hS,F2⟩;go_wp2_with fail;exact⟨rfl,.inr ⟨_,rfl,hS,F1.trans F2⟩⟩
theorem rb(c:PC)(s:ByteArray)(at_:Nat)(mild:Bool)(w:World)(h:PSt c at_ mild w):
  Calls prog 47 #[.pointer (some ⟨c.bp,0,none⟩),.string s] w (RPost c 31 s at_ mild w):=by
 go_enter func47,ntmps47;go_wp2_with fail;refine(bG c s at_ mild _ (h.keep ((Fr.refl _).alloc _))).mono ?_;rintro e w1 ⟨rfl,k1⟩;have hb:=h.bp;have hbt:=h.bt;have h1:=h.keep (((Fr.refl w).alloc _).keep k1);have F1:Fr (· =c.bp) w w1:=((Fr.refl w).alloc _).keep k1;have z1:=k1.blk (ql w _);by_cases hs:aH (tk c.ts at_) s=true
 ·go_wp2_with fail;refine(eT c 31 at_ mild _ h1 (bH hs)).mono ?_;rintro e w2 ⟨rfl,h2,F2⟩;have z2:=F2.blk (by omega) z1;clear z1;go_wp2_with (refine aw z2 rfl rfl rfl ?_);refine qh (aN rfl (setRow_heap _ _ _ _ _ _ z2) rfl) rfl ?_;exact .inl ⟨hs,by rw[jm hs],h2.setRow _ _ (by omega) (by omega),(F1.trans F2).setRow _ _ qr⟩
 ·go_wp2_with fail;refine(bh c at_ mild _ h1).mono ?_;rintro e w2 ⟨ch,rfl,hS,F2⟩;go_wp2_with fail;exact⟨rfl,.inr ⟨_,rfl,hS,F1.trans F2⟩⟩
def fX(l:List UInt8):Bool:=l== [100,111,117,98,108,101] ||l== [102,108,111,97,116] ||l== [105,110,116,51,50] ||l== [105,110,116,54,52] ||l== [117,105,110,116,51,50] ||l== [117,105,110,116,54,52] ||l== [115,105,110,116,51,50] ||l== [115,105,110,116,54,52] ||l== [102,105,120,101,100,51,50] ||l== [102,105,120,101,100,54,52] ||l== [115,102,105,120,101,100,51,50] ||l== [115,102,105,120,101,100,54,52] ||l== [98,111,111,108] ||l== [115,116,114,105,110,103] ||l== [98,121,116,101,115]
def lI(l:List UInt8):Bool:=l== [115,121,110,116,97,120] ||l== [101,100,105,116,105,111,110] ||l== [105,109,112,111,114,116] ||l== [119,101,97,107] ||l== [112,117,98,108,105,99] ||l== [112,97,99,107,97,103,101] ||l== [111,112,116,105,111,110] ||l== [116,114,117,101] ||l== [102,97,108,115,101] ||l== [105,110,102] ||l== [110,97,110] ||l== [114,101,112,101,97,116,101,100] ||l== [111,112,116,105,111,110,97,108] ||l== [114,101,113,117,105,114,101,100] ||l== [103,114,111,117,112] ||l== [111,110,101,111,102] ||l== [109,97,112] ||l== [101,120,116,101,110,115,105,111,110,115] ||l== [116,111] ||l== [109,97,120] ||l== [114,101,115,101,114,118,101,100] ||l== [101,110,117,109] ||l== [109,101,115,115,97,103,101] ||l== [101,120,116,101,110,100] ||l== [115,101,114,118,105,99,101] ||l== [114,112,99] ||l== [115,116,114,101,97,109] ||l== [114,101,116,117,114,110,115] ||fX l
theorem cB(s:ByteArray)(w:World):Calls prog 141 #[.string s] w fun e w'=>e= .returned (.bool (fX s.toList))∧w'=w:=by
 go_enter func141,ntmps141;go_wp2
 all_goals
  go_ret;refine⟨?_,rfl⟩
  first|contradiction|simp_all [fX]
theorem kF(s:ByteArray)(w:World):Calls prog 112 #[.string s] w fun e w'=>e= .returned (.bool (lI s.toList))∧w'=w:=by
 go_enter func112,ntmps112;go_wp2_with (go_at_call 141;refine(cB _ _).mono ?_;rintro e w' ⟨rfl,rfl⟩)
 all_goals
  go_ret;refine⟨?_,rfl⟩
  first|contradiction|simp_all [lI]
end Go.Proofs.YtnclklfhjbkjhaaGreatDoor
namespace Go.Proofs.YtnclklfhjbkjhaaGreatDoor
open Tryz
open Go.RowKit
def xZ(c:PC)(at_:Nat)(mild:Bool)(w:World)(e:Ending)(w':World):Prop:=
 ((tk c.ts at_).kind=1∧e= .returned (.agg #[.int .i64 29,.int .i64 at_,.int .i64 at_,.string (tk c.ts at_).raw,.int .u64 (tk c.ts at_).num,.slice none 0 0])∧PSt c (at_+1) mild w'∧Fr (· =c.bp) w w')∨PPost c w e w'
def zK:Array Value:=#[.int .i64 0,.int .i64 0,.int .i64 0,.string ⟨#[]⟩,.int .u64 0,.slice none 0 0]
theorem mo{c:PC}{at_:Nat}{mild:Bool}{w w':World}{P:Program}{cd:Code}{Q:Exit→Act→World→Prop}{a:Act}(h:PSt c at_ mild w)(k:Keep w w')(z:w'.heap[w.heap.size]? =some (.cells #[.int .i64 0,.int .i64 0,.int .i64 0,.string ⟨#[]⟩,.int .u64 0,.slice none 0 0] 26))
  (next:∀w',PSt c at_ mild w'→Keep w w'→w'.heap[w.heap.size]? =some (.cells #[.int .i64 0,.int .i64 0,.int .i64 0,.string ⟨#[]⟩,.int .u64 0,.slice none 0 0] 26)→Code.wp P cd Q a w'):Code.wp P cd Q a w':=next w' (h.keep k) k z
theorem eR(c:PC)(at_:Nat)(mild:Bool)(w:World)(h:PSt c at_ mild w):
  Calls prog 79 #[.pointer (some ⟨c.bp,0,none⟩)] w (xZ c at_ mild w):=by
 go_enter func79,ntmps79;have H0:=Z h;clear h;go_wp2_with fail;refine mo H0 ((Fr.refl _).alloc _) (ql w _) ?_;intro w1 h1 k1 z1;have H1:=Z h1;have Z1:=Z z1;have L:=h1.bp;have L':=H0.bp;obtain⟨-,-,hat,hsm,c0,c1,-,-,-,-,-,d0,d1,-,-,-⟩:=h1.facts;clear h1 z1;by_cases hk:(tk c.ts at_).kind=1
 ·have HK:=Z hk;have hk':((tk c.ts at_).kind !=1)=false:=by simp[hk]
  clear hk;go_quiet (fail);go_wp2_with fail;refine aG (fun w2=>Keep w1 w2∧w2.cell? ⟨c.bp,0,none⟩=some (.slice (some ⟨c.bt,0,none⟩) c.ts.length c.cap)∧w2.cell? ⟨c.bp,1,none⟩=some (.int .i64 at_)∧w2.cell? ⟨c.bt,at_*5+1,none⟩=some (.string (tk c.ts at_).raw)) ⟨⟨rfl,rfl,rfl,Nat.le_refl _,fun _ _ _=>rfl⟩,c0,c1,d1⟩ ?_;clear c0 c1 d0 d1;rintro w2 ⟨k2,c0,c1,d1⟩;go_quiet ((go_at_call 112;exact Calls.quiet_of_same (kF _ _)));have K2:Keep w1 (w2.drewN nq):=k2.drewN nq;cases hm:lI (tk c.ts at_).raw.toList;rotate_left
  ·go_wp2_with fail;refine(ap c at_ mild _ (H1.keep K2)).mono ?_;rintro e w3 ⟨ch,rfl,hS,F2⟩;go_wp2_with fail;exact⟨rfl,.inr ⟨_,rfl,hS,(k1.keep K2).up.trans F2⟩⟩
  ·go_wp2_with fail;refine(eT c 29 at_ mild _ (H1.keep K2) (by rw[HK.out];decide)).mono ?_;rintro e w3 ⟨rfl,h3,F2⟩;have z3:=F2.blk (by omega) (K2.blk Z1);have hlf:au (tk c.ts at_)=(tk c.ts at_).raw:=by simp[au,HK.out]
   rw[hlf];clear hlf;go_wp2_with (refine aw z3 rfl rfl rfl ?_);refine qh (aN rfl (setRow_heap _ _ _ _ _ _ z3) rfl) rfl ?_;have L2:=H0.bt;exact .inl ⟨HK,rfl,h3.setRow _ _ (by omega) (by omega),((k1.keep K2).up.trans F2).setRow _ _ qr⟩
 ·have HK:=Z hk;have hk':((tk c.ts at_).kind !=1)=true:=by simp[hk]
  clear hk;go_quiet (fail);go_wp2_with fail;have K1:Keep w1 (w1.drewN nq):=⟨rfl,rfl,rfl,Nat.le_refl _,fun _ _ _=>rfl⟩;refine(bh c at_ mild _ (H1.keep K1)).mono ?_;rintro e w2 ⟨ch,rfl,hS,F2⟩;go_wp2_with fail;exact⟨rfl,.inr ⟨_,rfl,hS,(k1.keep K1).up.trans F2⟩⟩
def xO(c:PC)(at_:Nat)(mild:Bool)(w:World)(e:Ending)(w':World):Prop:=
 ((tk c.ts at_).kind=2∧e= .returned (.agg #[.int .i64 34,.int .i64 at_,.int .i64 at_,.string (au (tk c.ts at_)),.int .u64 (tk c.ts at_).num,.slice none 0 0])∧PSt c (at_+1) mild w'∧Fr (· =c.bp) w w')∨PPost c w e w'
theorem pU(c:PC)(at_:Nat)(mild:Bool)(w:World)(h:PSt c at_ mild w):
  Calls prog 121 #[.pointer (some ⟨c.bp,0,none⟩)] w (xO c at_ mild w):=by
 go_enter func121,ntmps121;have H0:=Z h;clear h;go_wp2_with fail;refine mo H0 ((Fr.refl _).alloc _) (ql w _) ?_;intro w1 h1 k1 z1;have H1:=Z h1;have Z1:=Z z1;have L:=h1.bp;have L':=H0.bp;obtain⟨-,-,hat,hsm,c0,c1,-,-,-,-,-,d0,-,-,-,-⟩:=h1.facts;clear h1 z1;by_cases hk:(tk c.ts at_).kind=2
 ·have HK:=Z hk;have hk':((tk c.ts at_).kind !=2)=false:=by simp[hk]
  clear hk;go_quiet (fail);have K2:Keep w1 (w1.drewN nq):=(Fr.refl w1).drewN nq;go_wp2_with fail;refine(eT c 34 at_ mild _ (H1.keep K2) (by rw[HK.out];decide)).mono ?_;rintro e w3 ⟨rfl,h3,F2⟩;have z3:=F2.blk (by omega) (K2.blk Z1);go_wp2_with (refine aw z3 rfl rfl rfl ?_);refine qh (aN rfl (setRow_heap _ _ _ _ _ _ z3) rfl) rfl ?_;have L2:=H0.bt;exact .inl ⟨HK,rfl,h3.setRow _ _ (by omega) (by omega),((k1.keep K2).up.trans F2).setRow _ _ qr⟩
 ·have HK:=Z hk;have hk':((tk c.ts at_).kind !=2)=true:=by simp[hk]
  clear hk;go_quiet (fail);go_wp2_with fail;have K1:Keep w1 (w1.drewN nq):=(Fr.refl w1).drewN nq;refine(bh c at_ mild _ (H1.keep K1)).mono ?_;rintro e w2 ⟨ch,rfl,hS,F2⟩;go_wp2_with fail;exact⟨rfl,.inr ⟨_,rfl,hS,(k1.keep K1).up.trans F2⟩⟩
structure Env(c:PC)(at_:Nat)(mild:Bool)(w0:World)(bs:List (Nat×Array Value))(ks:List (Value×List Nd))(w:World):Prop where
 st:PSt c at_ mild w
 fr:Fr (· =c.bp) w0 w
 blk:∀x∈bs,w0.heap.size≤x.1∧w.heap[x.1]? =some (.cells x.2 26 (0,0))
 own:∀x∈ks,KOwn w0.heap.size w x.1 x.2
 dis:∀x∈bs,∀y∈ks,y.1.ownBlock≠some x.1
 pw:bs.Pairwise (fun x y=>x.1≠y.1)
 bp0:c.bp<w0.heap.size
 bt0:c.bt<w0.heap.size
namespace Env
variable {c:PC} {a a':Nat} {m m':Bool} {w0 w w':World} {bs:List (Nat×Array Value)} {ks:List (Value×List Nd)}
theorem start(h:PSt c a m w):Env c a m w [] [] w:=⟨h,Fr.refl _,(fun _ h=>by cases h),(fun _ h=>by cases h),(fun _ h=>by cases h),.nil,h.bp,h.bt⟩
theorem keep(h:Env c a m w0 bs ks w)(k:Keep w w'):Env c a m w0 bs ks w':=
 ⟨h.st.keep k,h.fr.keep k,fun x hx=>⟨(h.blk x hx).1,k.blk (h.blk x hx).2⟩,fun x hx=>(h.own x hx).keep k,h.dis,h.pw,h.bp0,h.bt0⟩
theorem call(h:Env c a m w0 bs ks w)(s:PSt c a' m' w')(f:Fr (· =c.bp) w w'):Env c a' m' w0 bs ks w':=
 ⟨s,h.fr.trans f,fun x hx=>⟨(h.blk x hx).1,f.blk (fun e=>by have:=(h.blk x hx).1;have:=h.bp0;omega) (h.blk x hx).2⟩,
  fun x hx=>(h.own x hx).kept f (fun g hg e=>by have:=((h.own x hx).lt hg).1;have:=h.bp0;omega),h.dis,h.pw,h.bp0,h.bt0⟩
theorem alloc(h:Env c a m w0 bs ks w)(cs:Array Value):Env c a m w0 ((w.heap.size,cs) ::bs) ks (w.alloc (.cells cs 26)):=by
 have k:=h.keep ((Fr.refl w).alloc (.cells cs 26));refine⟨k.st,k.fr,fun x hx=>?_,k.own,fun x hx y hy e=>?_,.cons (fun y hy e=>by have:=af (h.blk y hy).2;dsimp only at e;omega) h.pw,h.bp0,h.bt0⟩
 ·rcases List.mem_cons.1 hx with rfl|hx
  ·exact⟨h.fr.size,ql w _⟩
  ·exact k.blk x hx
 ·rcases List.mem_cons.1 hx with rfl|hx
  ·have:=((h.own y hy).lt e).2;simp at this
  ·exact h.dis x hx y hy e
theorem addNil(h:Env c a m w0 bs ks w):Env c a m w0 bs ((.slice none 0 0,[]) ::ks) w:=
 ⟨h.st,h.fr,h.blk,fun x hx=>by
  rcases List.mem_cons.1 hx with rfl|hx
  ·exact KOwn.nil _ _
  ·exact h.own x hx,fun x hx y hy e=>by
  rcases List.mem_cons.1 hy with rfl|hy
  ·simp[Value.ownBlock] at e
  ·exact h.dis x hx y hy e,h.pw,h.bp0,h.bt0⟩
theorem addNew(h:Env c a m w0 bs ks w)(l:List Nd)(arr:Array Value)(ha:arr.toList=eZ l)(hsm:l.length≤1000000):
  Env c a m w0 bs ((.slice (some ⟨w.heap.size,0,none⟩) l.length l.length,l) ::ks) (w.alloc (.cells arr 26)):=by
 have k:=h.keep ((Fr.refl w).alloc (.cells arr 26));refine⟨k.st,k.fr,k.blk,fun x hx=>?_,fun x hx y hy e=>?_,h.pw,h.bp0,h.bt0⟩
 ·rcases List.mem_cons.1 hx with rfl|hx
  ·exact KOwn.new l arr ha hsm h.fr.size
  ·exact k.own x hx
 ·rcases List.mem_cons.1 hy with rfl|hy
  ·simp only[Value.ownBlock] at e;have e':w.heap.size=x.1:=Option.some.inj e;have:=af (h.blk x hx).2;omega
  ·exact h.dis x hx y hy e
theorem dropK{x:Value×List Nd}(h:Env c a m w0 bs (x::ks) w):Env c a m w0 bs ks w:=⟨h.st,h.fr,h.blk,fun y hy=>h.own y (List.mem_cons_of_mem _ hy),fun x hx y hy=>h.dis x hx y (List.mem_cons_of_mem _ hy),h.pw,h.bp0,h.bt0⟩
theorem dropB{x:Nat×Array Value}(h:Env c a m w0 (x::bs) ks w):Env c a m w0 bs ks w:=⟨h.st,h.fr,fun y hy=>h.blk y (List.mem_cons_of_mem _ hy),h.own,fun x hx=>h.dis x (List.mem_cons_of_mem _ hx),(List.pairwise_cons.1 h.pw).2,h.bp0,h.bt0⟩
theorem grow{v v':Value}{l l':List Nd}(h:Env c a m w0 bs [(v,l)] w)(o:KOwn w0.heap.size w' v' l')(f:Fr (fun k=>v.ownBlock=some k) w w')(s:OwnStep w v v'):Env c a m w0 bs [(v',l')] w':=by
 have hv:∀g,v.ownBlock=some g→w0.heap.size≤g:=fun g hg=>((h.own (v,l) (by simp)).lt hg).1
 have hbt:c.bt<w0.heap.size:=h.bt0;have hbp:=h.bp0;have hd:∀x∈bs,v.ownBlock≠some x.1:=fun x hx=>h.dis x hx (v,l) (by simp)
 refine⟨⟨f.blk (fun e=>by have:=hv _ e;omega) h.st.blk,fun i hi j u hu=>Fr.cell f (fun e=>by have:=hv _ e;omega) (h.st.toks i hi j u hu),h.st.lt⟩,
  h.fr.andThen f (fun i hi e=>by have:=hv _ e;omega),fun x hx=>⟨(h.blk x hx).1,f.blk (hd x hx) (h.blk x hx).2⟩,fun x hx=>?_,fun x hx y hy e=>?_,h.pw,hbp,hbt⟩
 ·rcases List.mem_cons.1 hx with rfl|hx
  ·exact o
  ·cases hx
 ·rcases List.mem_cons.1 hy with rfl|hy
  ·rcases s x.1 e with e|e
   ·exact hd x hx e
   ·have:=af (h.blk x hx).2;omega
  ·cases hy
theorem z1{b:Nat}{cs:Array Value}(h:Env c a m w0 ((b,cs) ::bs) ks w):w.heap[b]? =some (.cells cs 26 (0,0)):=(h.blk (b,cs) (by simp)).2
theorem z2{b:Nat}{cs:Array Value}{x1:Nat×Array Value}(h:Env c a m w0 (x1:: (b,cs) ::bs) ks w):w.heap[b]? =some (.cells cs 26 (0,0)):=(h.blk (b,cs) (by simp)).2
theorem z3{b:Nat}{cs:Array Value}{x1 x2:Nat×Array Value}(h:Env c a m w0 (x1::x2:: (b,cs) ::bs) ks w):w.heap[b]? =some (.cells cs 26 (0,0)):=(h.blk (b,cs) (by simp)).2
theorem z4{b:Nat}{cs:Array Value}{x1 x2 x3:Nat×Array Value}(h:Env c a m w0 (x1::x2::x3:: (b,cs) ::bs) ks w):w.heap[b]? =some (.cells cs 26 (0,0)):=(h.blk (b,cs) (by simp)).2
theorem k1{v:Value}{l:List Nd}(h:Env c a m w0 bs ((v,l) ::ks) w):KOwn w0.heap.size w v l:=h.own (v,l) (by simp)
theorem set1{b:Nat}{cs:Array Value}(h:Env c a m w0 ((b,cs) ::bs) ks w)(cs':Array Value)(hd:∀x∈bs,x.1≠b):Env c a m w0 ((b,cs') ::bs) ks (w.setRow b cs'):=by
 have hb:=(h.blk (b,cs) (by simp)).1;have f:Fr (· =b) w (w.setRow b cs'):=⟨rfl,rfl,rfl,by simp,fun k _ hk=>setRow_other w b k cs' hk⟩;have hbp:=h.bp0;have hbt:=h.bt0;refine⟨h.st.setRow _ _ (by simp at hb;omega) (by simp at hb;omega),h.fr.setRow _ _ hb,fun x hx=>?_,fun x hx=>(h.own x hx).kept f (fun g hg e=>h.dis (b,cs) (by simp) x hx (by rw[hg,e])),fun x hx y hy=>?_,.cons (fun y hy e=>(List.pairwise_cons.1 h.pw).1 y hy e) (List.pairwise_cons.1 h.pw).2,hbp,hbt⟩
 ·rcases List.mem_cons.1 hx with rfl|hx
  ·exact⟨hb,setRow_heap _ _ _ _ _ _ h.z1⟩
  ·exact⟨(h.blk x (List.mem_cons_of_mem _ hx)).1,by rw[setRow_other w b x.1 cs' (hd x hx)];exact(h.blk x (List.mem_cons_of_mem _ hx)).2⟩
 ·rcases List.mem_cons.1 hx with rfl|hx
  ·exact h.dis (b,cs) (by simp) y hy
  ·exact h.dis x (List.mem_cons_of_mem _ hx) y hy
theorem set0{b:Nat}{cs:Array Value}(h:Env c a m w0 ((b,cs) ::bs) ks w)(cs':Array Value):Env c a m w0 ((b,cs') ::bs) ks (w.setRow b cs'):=
 h.set1 cs' fun x hx e=>(List.pairwise_cons.1 h.pw).1 x hx e.symm
theorem swapB{x y:Nat×Array Value}(h:Env c a m w0 (x::y::bs) ks w):Env c a m w0 (y::x::bs) ks w:=
 ⟨h.st,h.fr,fun z hz=>h.blk z (by simp at hz ⊢;rcases hz with e|e|e<;>simp[e]),h.own,fun z hz=>h.dis z (by simp at hz ⊢;rcases hz with e|e|e<;>simp[e]),by
  obtain⟨h1,h2⟩:=List.pairwise_cons.1 h.pw;obtain⟨h3,h4⟩:=List.pairwise_cons.1 h2;refine .cons (fun z hz=>?_) (.cons (fun z hz=>h1 z (List.mem_cons_of_mem _ hz)) h4);rcases List.mem_cons.1 hz with rfl|hz
  ·exact(h1 y List.mem_cons_self).symm
  ·exact h3 z hz,h.bp0,h.bt0⟩
theorem pan{e:Ending}(h:Env c a m w0 bs ks w)(p:PPost c w e w'):PPost c w0 e w':=p.fr h.fr
theorem lt1{b:Nat}{cs:Array Value}(h:Env c a m w0 ((b,cs) ::bs) ks w):w0.heap.size≤b∧b<w.heap.size:=⟨(h.blk (b,cs) (by simp)).1,af h.z1⟩
theorem allocZ(h:Env c a m w0 bs ks w):Env c a m w0 ((w.heap.size,#[.int .i64 0,.int .i64 0,.int .i64 0,.string ⟨#[]⟩,.int .u64 0,.slice none 0 0]) ::bs) ks (w.alloc (.cells #[.int .i64 0,.int .i64 0,.int .i64 0,.string ⟨#[]⟩,.int .u64 0,.slice none 0 0] 26)):=h.alloc _
end Env
theorem nC{c:PC}{a a1:Nat}{m m':Bool}{w0 w:World}{bs:List (Nat×Array Value)}{ks:List (Value×List Nd)}{f:FuncId}{args:Array Value}{G:Nat→Int→Int→Int→ByteArray→Int→Value→World→Prop}{K:Ending→World→Prop}
  (hc:Calls prog f args w (NPost c a1 m' w G)) (E:RowKit.Hid (Env c a m w0 bs ks w)) (hp:∀ch w',PPost c w0 (.panicked ch) w'→K (.panicked ch) w')
  (hk:∀w' at' k f l t n ka kn kc,RowKit.Hid (G at' k f l t n (.slice ka kn kc) w')→RowKit.Hid (a1<at')→RowKit.Hid (Env c at' m' w0 bs ks w')→K (.returned (.agg #[.int .i64 k,.int .i64 f,.int .i64 l,.string t,.int .u64 n,.slice ka kn kc])) w'):
  Calls prog f args w K:=hc.mono fun e w' h=>by
 rcases h with⟨at',k,f,l,t,n,ka,kn,kc,rfl,hP,F,hlt,hG⟩|⟨ch,rfl,hS,F⟩
 ·exact hk _ _ _ _ _ _ _ _ _ _ hG hlt (E.call hP F)
 ·exact hp _ _ (E.pan ⟨ch,rfl,hS,F⟩)
theorem kC{c:PC}{a:Nat}{m:Bool}{w0 w:World}{bs:List (Nat×Array Value)}{ks:List (Value×List Nd)}{f:FuncId}{args:Array Value}{v:Value}{K:Ending→World→Prop}
  (hc:Calls prog f args w fun e w'=>e= .returned v∧Keep w w') (E:RowKit.Hid (Env c a m w0 bs ks w)) (hk:∀w',RowKit.Hid (Env c a m w0 bs ks w')→K (.returned v) w'):
  Calls prog f args w K:=hc.mono fun e w' h=>by
 obtain⟨rfl,k⟩:=h;exact hk _ (E.keep k)
theorem bO{c:PC}{a:Nat}{m:Bool}{w0 w:World}{bs:List (Nat×Array Value)}{ks:List (Value×List Nd)}{s:ByteArray}{K:Ending→World→Prop}
  (E:RowKit.Hid (Env c a m w0 bs ks w)) (hk:∀w',RowKit.Hid (Env c a m w0 bs ks w')→K (.returned (.bool (aH (tk c.ts a) s))) w'):
  Calls prog 22 #[.pointer (some ⟨c.bp,0,none⟩),.string s] w K:=kC (bG c s a m w E.st) E hk
theorem aB{ops:Array Oper}{rest:List Oper}{Q:Exit→Act→World→Prop}{a:Act}{w:World}{pos:String}{after:Array Edge}{ty:TypeId}{d d' s t:Tmp}{k f l n:Int}{tx:ByteArray}{ka:Option Addr}{kn kc:Nat}{v:Value}{ns:List Nd}{ty':TypeId}{pos':String}{after':Array Edge}{c:PC}{aa:Nat}{m:Bool}{w0:World}{bs:List (Nat×Array Value)}
  (E:RowKit.Hid (Env c aa m w0 bs [(v,ns)] w)) (hsm:ns.length≤1000000) (hd:d<a.tmps.size) (hsd:s≠d)
  (hs:a.tmps.getD s undef=v) (ht:a.tmps.getD t undef= .agg #[.int .i64 k,.int .i64 f,.int .i64 l,.string tx,.int .u64 n,.slice ka kn kc])
  (next:∀v' w',RowKit.Hid (Env c aa m w0 bs [(v',ns++ [Nd.mk k f l tx n ka kn kc])] w')→RowKit.Hid (wpList prog ops Q rest ((a.put (some d) (.slice (some ⟨w.heap.size,0,none⟩) 1 1)).put (some d') v') w')):
  wpList prog ops Q ({dst:=some d,op:= .buildSlice 24 1 #[(0,.tmp t)],type:=ty,pos:=pos,after:=after,guard:=none} ::
   {dst:=some d',op:= .call {callee:= .builtin .append,args:=#[.tmp s,.tmp d],argTypes:=#[24,24]},type:=ty',pos:=pos',after:=after',guard:=none} ::rest) a w:=
 app1 E.k1 E.fr.size hsm hd hsd hs ht fun v' w' o f s=>(next v' w' (E.grow o f s)).out
end Go.Proofs.YtnclklfhjbkjhaaGreatDoor
namespace Go.Proofs.YtnclklfhjbkjhaaGreatDoor
open Tryz
open Go.RowKit
inductive LSeg(One:Nat→Nat→Prop)(ts:List Tk):Nat→Nat→Prop where
 |one {i j:Nat}:One i j→LSeg One ts i j
 |more {i j k:Nat}:LSeg One ts i j→aH (tk ts j) ⟨#[44]⟩=true→One (j+1) k→LSeg One ts i k
def vW(c:PC)(B:Nat)(v:Value)(l:List Nd)(at_:Nat)(mild:Bool)(w:World)(G:Nat→Prop)(e:Ending)(w':World):Prop:=
 (∃at' v' l',e= .returned v'∧PSt c at' mild w'∧KOwn B w' v' (l++l')∧l'≠[]∧Fr (KF c.bp v) w w'∧OwnStep w v v'∧at_<at'∧(l++l').length≤at'∧G at')∨
 (∃ch,e= .panicked ch∧gV c ch w'∧Fr (KF c.bp v) w w')
theorem KF.of{bp:Nat}{w w':World}{v:Value}(h:Fr (· =bp) w w'):Fr (KF bp v) w w':=h.mono fun _ _ e=> .inl e
theorem KF.grow{bp:Nat}{w w1 w2:World}{v v1:Value}(h:Fr (KF bp v) w w1)(o:OwnStep w v v1)(f:Fr (fun k=>v1.ownBlock=some k) w1 w2):Fr (KF bp v) w w2:=
 h.andThen f fun i hi e=>by
  rcases o i e with e|e
  ·exact .inr e
  ·omega
theorem KF.call{bp:Nat}{w w1 w2:World}{v:Value}(h:Fr (KF bp v) w w1)(f:Fr (· =bp) w1 w2):Fr (KF bp v) w w2:=h.andThen f fun _ _ e=> .inl e
structure GEnv(c:PC)(B:Nat)(v0:Value)(at_:Nat)(mild:Bool)(w0:World)(v:Value)(l:List Nd)(w:World):Prop where
 st:PSt c at_ mild w
 own:KOwn B w v l
 fr:Fr (KF c.bp v0) w0 w
 step:OwnStep w0 v0 v
 bp:c.bp<B
 bt:c.bt<B
 hB:B≤w0.heap.size
 len:l.length≤at_
namespace GEnv
variable {c:PC} {B:Nat} {v0 v v':Value} {a a':Nat} {m:Bool} {w0 w w':World} {l l':List Nd}
theorem keep(h:GEnv c B v0 a m w0 v l w)(k:Keep w w'):GEnv c B v0 a m w0 v l w':=⟨h.st.keep k,h.own.keep k,h.fr.keep k,h.step,h.bp,h.bt,h.hB,h.len⟩
theorem call(h:GEnv c B v0 a m w0 v l w)(s:PSt c a' m w')(f:Fr (· =c.bp) w w')(ha:a≤a'):GEnv c B v0 a' m w0 v l w':=
 ⟨s,h.own.kept f (fun g hg e=>by have:=(h.own.lt hg).1;have:=h.bp;omega),KF.call h.fr f,h.step,h.bp,h.bt,h.hB,Nat.le_trans h.len ha⟩
theorem grow(h:GEnv c B v0 a m w0 v l w)(o:KOwn B w' v' l')(f:Fr (fun k=>v.ownBlock=some k) w w')(s:OwnStep w v v')(hl:l'.length≤a):GEnv c B v0 a m w0 v' l' w':=by
 have hv:∀g,v.ownBlock=some g→B≤g:=fun g hg=>(h.own.lt hg).1
 have hbp:=h.bp;have hbt:=h.bt;exact⟨⟨f.blk (fun e=>by have:=hv _ e;omega) h.st.blk,fun i hi j u hu=>Fr.cell f (fun e=>by have:=hv _ e;omega) (h.st.toks i hi j u hu),h.st.lt⟩,
  o,KF.grow h.fr h.step f,h.step.trans s h.fr.size,hbp,hbt,h.hB,hl⟩
theorem hBw(h:GEnv c B v0 a m w0 v l w):B≤w.heap.size:=Nat.le_trans h.hB h.fr.size
theorem sm(h:GEnv c B v0 a m w0 v l w):l.length≤1000000:=by have:=h.len;have:=h.st.lt;have:=c.small;omega
theorem pan{ch:List PanicEntry}(h:GEnv c B v0 a m w0 v l w)(hs:gV c ch w')(f:Fr (· =c.bp) w w'):∃ch',Ending.panicked ch= .panicked ch'∧gV c ch' w'∧Fr (KF c.bp v0) w0 w':=⟨ch,rfl,hs,KF.call h.fr f⟩
end GEnv
def gT(c:PC)(w:World):Nat:=match w.cell? ⟨c.bp,1,none⟩ with|some (.int _ n)=>n.toNat|_=>0
theorem aE{c:PC}{a:Nat}{m:Bool}{w:World}(h:PSt c a m w):gT c w=a:=by
 unfold gT;rw[show w.cell? ⟨c.bp,1,none⟩=some (.int .i64 a) from ab h.blk 1];simp
theorem dW(c:PC)(F:FuncId)(first cap:Array Value)(B:Nat)(v:Value)(l:List Nd)(at_:Nat)(mild:Bool)(w:World)(One:Nat→Nat→Prop)
  (I:World→Prop) (hI:∀w1 w2,I w1→Fr (fun k=>k=c.bp∨v.ownBlock=some k∨w.heap.size≤k) w1 w2→I w2) (hi:I w)
  (hF:∀args w,(callFunc F args).run prog w= .ok (.enter F args) w)
  (hone:∀a w,at_≤a→PSt c a mild w→I w→Calls prog F (first++cap) w (NPost c a mild w fun a' _ _ _ _ _ _ _=>One a a'))
  (h:PSt c at_ mild w) (hown:KOwn B w v l) (hbp:c.bp<B) (hbt:c.bt<B) (hB:B≤w.heap.size) (hl:l.length≤at_):
  Calls prog 115 #[.pointer (some ⟨c.bp,0,none⟩),v,.func (.func F) first cap] w (vW c B v l at_ mild w (LSeg One c.ts at_)):=by
 have G0:=Z (show GEnv c B v at_ mild w v l w from⟨h,hown,Fr.refl _,OwnStep.refl _ _,hbp,hbt,hB,hl⟩);have HI:=Z hI;have Hi:=Z hi;have HO:=Z hone;clear hI hi hone h hown hbp hbt hB hl;go_enter func115,ntmps115;go_wp2_with fail;refine(HO at_ w qr G0.st Hi).mono ?_;rintro e w1 (⟨at1,k1,f1,l1,t1,n1,ka1,kn1,kc1,rfl,hP1,F1,hlt1,hG1⟩|⟨ch,rfl,hS,F1⟩);rotate_left
 ·go_wp2_with fail;exact⟨rfl,.inr (G0.pan hS F1)⟩
 have G1:=Z (G0.call hP1 F1 (Nat.le_of_lt hlt1));have HG1:=Z hG1;have HL:=Z G0.len;have Hi1:=Z (HI _ _ Hi (F1.mono fun _ _ e=> .inl e));clear hP1 F1 hG1;go_wp2_with (refine app1 G1.own G1.hBw G1.sm (by simp) (by decide) rfl rfl ?_;intro v2 w2 o2 f2 s2;refine Hid.out ?_);refine Z ?_;have G2:=Z (G1.grow o2 f2 s2 (by have:=HL.out;simp;omega));have Hi2:=Z (HI _ _ Hi1 (f2.mono fun k hk e=>by
  rcases G1.step k e with e|e
  ·exact .inr (.inl e)
  ·exact .inr (.inr e)))
 clear o2 f2 s2;go_wp2_with fail;have LS:=Z (LSeg.one (ts:=c.ts) HG1);have Lt1:=Z hlt1;clear HG1 hlt1;go_loopw [1] (fun u wr=>∃ (a:Nat) (l':List Nd),GEnv c B v a mild w u (l++l') wr∧l'≠[]∧at_<a∧LSeg One c.ts at_ a∧Hid (I wr)) (fun _ wr=>c.ts.length-gT c wr)
 case atStart=>exact⟨at1,_,G2.out,by simp,Lt1.out,LS.out,Hi2⟩
 case round=>
  obtain⟨a,l',GG,hne,hlt,hls,Hi⟩:=hrel;have G:=Z GG;have HN:=Z hne;have HLT:=Z hlt;have HLS:=Z hls;clear GG hne hlt hls;go_wp2_with fail;refine(bG c _ a mild _ G.st).mono ?_;rintro e wa ⟨rfl,ka⟩;have Ga:=Z (G.keep ka);have Hia:=Z (HI _ _ Hi ka.up);cases hc:aH (tk c.ts a) {data:=#[44]}
  ·go_wp2_with fail;go_ret;exact .inl ⟨a,_,l',rfl,Ga.st,Ga.own,HN,Ga.fr,Ga.step,HLT,Ga.len,HLS⟩
  ·go_wp2_with fail;have HC:=Z hc;clear hc;refine(eJ c _ a mild _ Ga.st).mono ?_;rintro e wb (⟨hs,rfl,hPb,Fb⟩|⟨ch,rfl,hS,Fb⟩);rotate_left
   ·go_wp2_with fail;exact⟨rfl,.inr (Ga.pan hS Fb)⟩
   have Gb:=Z (Ga.call hPb Fb (Nat.le_succ a));have Hib:=Z (HI _ _ Hia (Fb.mono fun _ _ e=> .inl e));have HLa:=Z Ga.len;clear hPb Fb hs;go_wp2_with (refine app1 Gb.own Gb.hBw Gb.sm (by simp) (by decide) rfl rfl ?_;intro v3 w3 o3 f3 s3;refine Hid.out ?_);refine Z ?_;have Gc:=Z (Gb.grow o3 f3 s3 (by have:=HLa.out;simp at this ⊢;omega));have Hic:=Z (HI _ _ Hib (f3.mono fun k hk e=>by
    rcases Gb.step k e with e|e
    ·exact .inr (.inl e)
    ·exact .inr (.inr e)))
   clear o3 f3 s3;go_wp2_with fail;refine(HO (a+1) _ (by have:=HLT.out;omega) Gc.st Hic).mono ?_;rintro e wd (⟨ad,kd,fd,ld,td,nd,kad,knd,kcd,rfl,hPd,Fd,hltd,hGd⟩|⟨ch,rfl,hS,Fd⟩);rotate_left
   ·go_wp2_with fail;exact⟨rfl,.inr (Gc.pan hS Fd)⟩
   have Gd:=Z (Gc.call hPd Fd (Nat.le_of_lt hltd));have Hid':=Z (HI _ _ Hic (Fd.mono fun _ _ e=> .inl e));have HGd:=Z hGd;have HLd:=Z hltd;have HLc:=Z Gc.len;clear hPd Fd hGd hltd;go_wp2_with (refine app1 Gd.own Gd.hBw Gd.sm (by simp) (by decide) rfl rfl ?_;intro v4 w4 o4 f4 s4;refine Hid.out ?_);refine Z ?_;have Ge:=Z (Gd.grow o4 f4 s4 (by have:=HLc.out;have:=HLd.out;simp at*;omega));have Hie:=Z (HI _ _ Hid'.out (f4.mono fun k hk e=>by
    rcases Gd.step k e with e|e
    ·exact .inr (.inl e)
    ·exact .inr (.inr e)))
   clear o4 f4 s4;go_wp2_with fail;go_roundw
   case rel=>
    have GE:=Ge.out;rw[qs l,qs l] at GE;exact⟨ad,_,GE,by simp,by have:=HLT.out;have:=HLd.out;omega,LSeg.more HLS.out HC.out HGd.out,Hie⟩
   case measure=>
    have e1:=aE G.st;have e2:=aE Ge.st;have:=HLd.out;have:=Ge.st.lt;rw[e1,e2];omega
end Go.Proofs.YtnclklfhjbkjhaaGreatDoor
