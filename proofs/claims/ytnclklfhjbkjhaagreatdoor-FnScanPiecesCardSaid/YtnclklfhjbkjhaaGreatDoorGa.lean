/- Part of the proof: G0 G1 G7 G2 H9. -/
import Derived.Test.YtnclklfhjbkjhaaGreatDoorAa
import Derived.Laws.FloatArith
import Derived.Lib.Strings
import Derived.Lib.Walk
import Derived.Lib.BufferWrite
import Derived.Lib.UnsafeStr
import Derived.Lib.IfaceEq
import Derived.Laws.MakeOwn
import Derived.RegionTactic
import Derived.Deep.RegionWith
import Derived.Defers
import Derived.Recover
set_option maxRecDepth 1000000
set_option maxHeartbeats 40000000
namespace Go.Proofs.YtnclklfhjbkjhaaGreatDoor

def dv : List Nat → Nat
  | [] => 0
  | d :: l => d * 10 ^ l.length + dv l
def gF (l : List Nat) : Prop := ∀ d ∈ l, d < 10
theorem pJ : ∀ (l : List Nat), gF l → dv l < 10 ^ l.length
  | [], _ => by simp [dv]
  | d :: l, h => by
    have h1 := pJ l fun x hx => h x (by simp [hx])
    have h2 := h d (by simp)
    have h3 : (d + 1) * 10 ^ l.length ≤ 10 * 10 ^ l.length := Nat.mul_le_mul_right _ (by omega)
    simp only [dv, List.length_cons, Nat.pow_succ]
    rw [Nat.add_mul] at h3
    omega
theorem yS {d : Nat} {l : List Nat} (h : 0 < d) : 10 ^ l.length ≤ dv (d :: l) := by
  have : 1 * 10 ^ l.length ≤ d * 10 ^ l.length := Nat.mul_le_mul_right _ h
  simp only [dv]; omega
def bM (k : Nat) (l : List Nat) (r : Nat) : Nat := dv (l.drop r) * 2 ^ k / 10 ^ (l.length - r)
theorem qU (k : Nat) (l : List Nat) : bM k l l.length = 0 := by simp [bM, dv]
theorem jC (k : Nat) (l : List Nat) (r : Nat) (h : r < l.length) : bM k l r = (bM k l (r + 1) + l[r] * 2 ^ k) / 10 := by
  unfold bM
  rw [List.drop_eq_getElem_cons h]
  obtain ⟨m, hm⟩ : ∃ m, l.length - r = m + 1 := ⟨l.length - r - 1, by omega⟩
  have hm' : l.length - (r + 1) = m := by omega
  have hl : (l.drop (r + 1)).length = m := by rw [List.length_drop]; omega
  rw [hm, hm']
  simp only [dv, hl]
  generalize dv (l.drop (r + 1)) = X
  rw [Nat.pow_succ, ← Nat.div_div_eq_div_mul, Nat.add_mul, Nat.mul_right_comm, Nat.add_comm, Nat.add_mul_div_right _ _ (Nat.pow_pos (by decide))]
theorem jD (k : Nat) (l : List Nat) (r : Nat) (h : gF l) : bM k l r < 2 ^ k := by
  unfold bM
  have h1 := pJ (l.drop r) fun x hx => h x (List.mem_of_mem_drop hx)
  rw [List.length_drop] at h1
  have hp : 0 < 10 ^ (l.length - r) := Nat.pow_pos (by decide)
  rw [Nat.div_lt_iff_lt_mul hp, Nat.mul_comm]
  exact (Nat.mul_lt_mul_left (Nat.pow_pos (by decide))).2 h1
structure Cheat (k d : Nat) (c : List Nat) : Prop where
  figs : gF c
  five : dv c = 5 ^ k
  len : c.length + d = k + 1
  lo : 10 ^ (d - 1) ≤ 2 ^ k
  hi : 2 ^ k < 10 ^ d
  pos : 0 < d
def bD : List Nat → List Nat → Bool
  | _, [] => false
  | [], _ :: _ => true
  | a :: l, b :: c => if a = b then bD l c else decide (a < b)
theorem uW (k : Nat) : 5 ^ k % 10 ≠ 0 := by
  have : 5 ^ k % 10 = 1 ∨ 5 ^ k % 10 = 5 := by
    induction k with
    | zero => exact .inl rfl
    | succ k ih => rw [Nat.pow_succ]; omega
  omega
theorem uZ {b : Nat} {c : List Nat} (h : c ≠ []) : dv (b :: c) % 10 = dv c % 10 := by
  cases c with
  | nil => exact absurd rfl h
  | cons x c =>
    simp only [dv, List.length_cons, Nat.pow_succ]
    rw [← Nat.mul_assoc]
    omega
theorem h_ : ∀ (c l : List Nat), gF c → gF l → (c ≠ [] → dv c % 10 ≠ 0) → (bD l c = true ↔ dv l * 10 ^ c.length < dv c * 10 ^ l.length)
  | [], l, _, _, _ => by cases l <;> simp [bD, dv]
  | b :: c, [], _, _, h => by
    have := h (by simp)
    have h0 : 0 < dv (b :: c) := by
      rcases Nat.eq_zero_or_pos (dv (b :: c)) with e | e
      · rw [e] at this; exact absurd rfl this
      · exact e
    simp [bD, dv] at h0 ⊢
    exact h0
  | b :: c, a :: l, hc, hl, h => by
    have hc' : gF c := fun x hx => hc x (by simp [hx])
    have hl' : gF l := fun x hx => hl x (by simp [hx])
    have ih := h_ c l hc' hl' fun e => by rw [← uZ e]; exact h (by simp)
    have h1 := pJ l hl'
    have h2 := pJ c hc'
    simp only [dv, List.length_cons, Nat.pow_succ]
    generalize hX : dv l = X at *
    generalize hY : dv c = Y at *
    generalize hP : 10 ^ l.length = P at *
    generalize hQ : 10 ^ c.length = Q at *
    have hP0 : 0 < P := by rw [← hP]; exact Nat.pow_pos (by decide)
    have hQ0 : 0 < Q := by rw [← hQ]; exact Nat.pow_pos (by decide)
    have e1 : (a * P + X) * (Q * 10) = 10 * (a * (P * Q) + X * Q) := by
      rw [Nat.add_mul, Nat.mul_add]
      congr 1
      · rw [Nat.mul_assoc, ← Nat.mul_assoc P, Nat.mul_comm (P * Q) 10, Nat.mul_left_comm]
      · rw [← Nat.mul_assoc, Nat.mul_comm]
    have e2 : (b * Q + Y) * (P * 10) = 10 * (b * (P * Q) + Y * P) := by
      rw [Nat.add_mul, Nat.mul_add]
      congr 1
      · rw [Nat.mul_assoc, ← Nat.mul_assoc Q, Nat.mul_comm (Q * P) 10, Nat.mul_left_comm, Nat.mul_comm Q P]
      · rw [← Nat.mul_assoc, Nat.mul_comm]
    rw [e1, e2]
    have h3 : X * Q < P * Q := (Nat.mul_lt_mul_right hQ0).2 h1
    have h4 : Y * P < P * Q := by rw [Nat.mul_comm P Q]; exact (Nat.mul_lt_mul_right hP0).2 h2
    unfold bD
    by_cases e : a = b
    · subst e
      rw [if_pos rfl, ih]
      omega
    · rw [if_neg e, decide_eq_true_eq]
      generalize P * Q = M at *
      generalize X * Q = U at *
      generalize Y * P = V at *
      constructor
      · intro hlt
        have : (a + 1) * M ≤ b * M := Nat.mul_le_mul_right _ hlt
        rw [Nat.add_mul] at this
        omega
      · intro hlt
        rcases Nat.lt_or_ge a b with g | g
        · exact g
        · have : (b + 1) * M ≤ a * M := Nat.mul_le_mul_right _ (by omega)
          rw [Nat.add_mul] at this
          omega
def tV (d : Nat) (l c : List Nat) : Nat := if bD l c = true then d - 1 else d
theorem jj {k d : Nat} {c l : List Nat} (hc : Cheat k d c) (hl : gF l) (a : Nat) (l' : List Nat) (e : l = a :: l') (ha : 0 < a) :
    bM k l 0 < 10 ^ tV d l c ∧ (0 < tV d l c → 10 ^ (tV d l c - 1) ≤ bM k l 0) := by
  have hiff := h_ c l hc.figs hl fun _ => by rw [hc.five]; exact uW k
  have hlo : 10 ^ (l.length - 1) ≤ dv l := by rw [e]; exact yS ha
  have hn : 0 < l.length := by rw [e]; simp
  have hcl := jD k l 0 hl
  have hlen := hc.len
  have hp := hc.pos
  have hd := hc.lo
  have hd2 := hc.hi
  rw [hc.five] at hiff
  have hL0 : 0 < 10 ^ c.length := Nat.pow_pos (by decide)
  have hN0 : 0 < 10 ^ l.length := Nat.pow_pos (by decide)
  have h2k : 0 < 2 ^ k := Nat.pow_pos (by decide)
  have hten : 5 ^ k * 2 ^ k = 10 ^ c.length * 10 ^ (d - 1) := by
    rw [← Nat.mul_pow, ← Nat.pow_add]
    congr 1
    omega
  have hcd : bM k l 0 = dv l * 2 ^ k / 10 ^ l.length := rfl
  have key : dv l * 10 ^ c.length < 5 ^ k * 10 ^ l.length ↔ dv l * 2 ^ k < 10 ^ (d - 1) * 10 ^ l.length := by
    rw [← Nat.mul_lt_mul_right h2k, ← Nat.mul_lt_mul_left hL0 (b := dv l * 2 ^ k)]
    have e1 : dv l * 10 ^ c.length * 2 ^ k = 10 ^ c.length * (dv l * 2 ^ k) := by
      rw [Nat.mul_comm (dv l), Nat.mul_assoc]
    have e2 : 5 ^ k * 10 ^ l.length * 2 ^ k = 10 ^ c.length * (10 ^ (d - 1) * 10 ^ l.length) := by
      rw [Nat.mul_right_comm, hten, Nat.mul_assoc]
    rw [e1, e2]
  unfold tV
  by_cases hb : bD l c = true
  · rw [if_pos hb]
    have h1 := key.1 (hiff.1 hb)
    refine ⟨by rw [hcd, Nat.div_lt_iff_lt_mul hN0]; exact h1, fun h0 => ?_⟩
    rw [hcd, Nat.le_div_iff_mul_le hN0]
    calc 10 ^ (d - 1 - 1) * 10 ^ l.length = 10 ^ (l.length - 1) * 10 ^ (d - 1) := by
          rw [← Nat.pow_add, ← Nat.pow_add]; congr 1; omega
      _ ≤ dv l * 2 ^ k := Nat.mul_le_mul hlo hd
  · rw [if_neg hb]
    have h1 : ¬ dv l * 2 ^ k < 10 ^ (d - 1) * 10 ^ l.length := fun h => hb (hiff.2 (key.2 h))
    refine ⟨Nat.lt_trans hcl hd2, fun _ => ?_⟩
    rw [hcd, Nat.le_div_iff_mul_le hN0]
    omega
def tz:Nat→Nat→Nat
 |0,_=>0
 |k+1,n=>if n%2=0 then tz k (n/2)+1 else 0
theorem vH:∀ (k n:Nat),tz k n≤k
 |0,_=>Nat.le_refl _
 |k+1,n=>by
  unfold tz;split
  ·have:=vH k (n/2);omega
  ·omega
theorem nR:∀ (k n j:Nat),j≤k→(j≤tz k n↔2^j∣n)
 |k,n,0,_=>by simp
 |0,_,j+1,h=>by omega
 |k+1,n,j+1,h=>by
  have ih:=nR k (n/2) j (by omega);unfold tz;by_cases e:n%2=0
  ·rw[if_pos e,Nat.add_le_add_iff_right,ih];obtain⟨m,rfl⟩:∃m,n=2*m:=⟨n/2,by omega⟩;rw[Nat.mul_div_cancel_left _ (by decide),Nat.pow_succ,Nat.mul_comm (2^j) 2];exact(Nat.mul_dvd_mul_iff_left (by decide)).symm
  ·rw[if_neg e];constructor
   ·intro h;omega
   ·intro h;have:2∣n:=Nat.dvd_trans ⟨2^j,by rw[Nat.pow_succ,Nat.mul_comm]⟩ h;omega
def tm(k n:Nat):Nat:=if n=0 then 0 else k+1-tz k n
theorem ua{k n:Nat}(h:0<n):tm k (n%2^k*10) <tm k n:=by
 have h1:=vH k n;have h2:=(nR k n (tz k n) h1).1 qr;unfold tm;rw[if_neg (by omega:¬n=0)];split
 ·omega
 ·rename_i hz;have hlt:tz k n<k:=by
   rcases Nat.lt_or_ge (tz k n) k with e|e
   ·exact e
   ·have e':tz k n=k:=by omega
    rw[e'] at h2;rw[Nat.mod_eq_zero_of_dvd h2] at hz;exact absurd (Nat.zero_mul _) hz
  have h3:2^tz k n∣n%2^k:=(Nat.dvd_mod_iff (Nat.pow_dvd_pow 2 h1)).2 h2;have h4:2^ (tz k n+1) ∣n%2^k*10:=by
   rw[Nat.pow_succ];exact Nat.mul_dvd_mul h3 (by decide)
  have h5:=(nR k (n%2^k*10) (tz k n+1) (by omega)).2 h4;omega
end Go.Proofs.YtnclklfhjbkjhaaGreatDoor
namespace Go.Proofs.YtnclklfhjbkjhaaGreatDoor
open Ieee
def NN(x:Nat):Prop:=x%9223372036854775808≤9218868437227405312
def FZ(y:Nat):Prop:=0<y%9223372036854775808∧y%9223372036854775808<9218868437227405312
theorem oC:Ieee.double.signWeight=9223372036854775808:=by decide
theorem iF:Ieee.double.infRung=9218868437227405312:=by decide
theorem pL:Ieee.double.binade=4503599627370496:=by decide
theorem ml(n:Bool)(r:Nat)(h:r≤9218868437227405312):NN (Ieee.double.word n r):=by
 unfold Format.word NN;rw[oC];split<;>omega
theorem fg(d:Datum)(h:d.isNaN=false):NN (Ieee.double.write d):=by
 cases d with
 |number s m e=>
  simp only[Format.write,Format.nearest];split
  ·exact ml _ _ (by decide)
  ·refine ml _ _ ?_;rw[iF];exact Nat.min_le_right _ _
 |infinity s=>
  simp only[Format.write];exact ml _ _ (by rw[iF];exact Nat.le_refl _)
 |nan s t=>cases h
theorem pP{x:Nat}(h:NN x):(Ieee.double.read x).isNaN=false:=by
 unfold NN at h;simp only[Format.read,oC,iF,pL];split
 ·rfl
 ·split
  ·rfl
  ·split
   ·rfl
   ·omega
theorem pS{y:Nat}(h:FZ y):∃s m e,Ieee.double.read y= .number s m e∧m≠0:=by
 obtain⟨h1,h2⟩:=h;simp only[Format.read,oC,iF,pL];split
 ·exact⟨_,_,_,rfl,by omega⟩
 ·exact⟨_,_,_,rfl,by omega⟩
theorem og{x y:Nat}(hx:NN x)(hy:FZ y):∃r,Ieee.double.mul x y=some r∧NN r:=by
 obtain⟨s,m,e,hr,hm⟩:=pS hy;have hn:=pP hx;unfold Format.mul;rw[hr];cases hd:Ieee.double.read x with
 |number s' m' e'=>exact⟨_,rfl,fg _ rfl⟩
 |infinity s'=>
  refine⟨Ieee.double.write (.infinity (s'^^s)),?_,fg _ rfl⟩;simp[Datum.product,hm]
 |nan s' t=>rw[hd] at hn;cases hn
theorem xw{x y:Nat}(hx:NN x)(hy:FZ y):∃r,Ieee.double.div x y=some r∧NN r:=by
 obtain⟨s,m,e,hr,hm⟩:=pS hy;have hn:=pP hx;unfold Format.div;rw[hr];cases hd:Ieee.double.read x with
 |number s' m' e'=>
  simp only[Datum.quotient];rw[if_neg hm];exact⟨_,rfl,fg _ rfl⟩
 |infinity s'=>
  refine⟨Ieee.double.write (.infinity (s'^^s)),?_,fg _ rfl⟩;simp[Datum.quotient]
 |nan s' t=>rw[hd] at hn;cases hn
theorem jN(n:Int):NN (floatOfInt .f64 n):=fg (.number (n<0) n.natAbs 0) rfl
end Go.Proofs.YtnclklfhjbkjhaaGreatDoor
namespace Go.Proofs.YtnclklfhjbkjhaaGreatDoor
open Tryz
open Go.RowKit
structure SG(w:World):Prop where
 e11:∃T a,w.cell? ⟨11,0,none⟩=some (.iface T a)
 e12:∃T a,w.cell? ⟨12,0,none⟩=some (.iface T a)
theorem SG.keep{w w':World}(h:SG w)(k:Keep w w'):SG w':=by
 obtain⟨⟨T,a,h1⟩,⟨T',a',h2⟩⟩:=h;exact⟨⟨T,a,Keep.cell k h1⟩,⟨T',a',Keep.cell k h2⟩⟩
theorem Keep.of_below{w w':World}(h:Below w.heap.size w w'):Keep w w':=⟨h.os,h.tape,h.output,h.size,fun k hk _=>h.block k hk⟩
theorem yG:(prog.info? 5).map (fun i=>(i.zero,i.size,i.bytes))=some (some (.int .u8 0),1,1):=by kernel_rfl
theorem kN(s:ByteArray)(w:World)(hlim:s.size≤100000):
  Calls prog 163 #[.string s] w fun e w'=>e= .returned (.string s)∧Keep w w':=by
 by_cases h0:s.size=0
 ·have hs:s=⟨#[]⟩:=by
   apply ByteArray.ext;exact Array.eq_empty_of_size_eq_zero h0
  subst hs;go_enter func163,ntmps163;go_wp2;go_ret;exact⟨rfl,Fr.refl _⟩
 ·obtain⟨i0,hi,hz0,hz1,hz2⟩:=info_parts yG;have hinfo:(prog.info? 5).map (·.size)=some 1:=by rw[hi];simp[hz1]
  have hco:prog.cellsOf 5=1:=by simp[Program.cellsOf,hi,hz1]
  obtain⟨M,hM⟩:∃M,M=madeCells (Value.int .u8 0).cells (((s.size:Nat):Int).toNat*i0.size):=⟨_,rfl⟩;have hMs:M.size=s.size:=by rw[hM,size_madeCells,hz1];simp
  have hmk:∀W:World,(Instr.makeSlice 117 (.int .i64 (s.size:Int)) (.int .i64 (s.size:Int))).run prog W= .ok (.slice (some ⟨W.heap.size,0,none⟩) s.size s.size) (W.alloc (.cells M 5)):=fun W=>by
   have h:=run_make (P:=prog) W 117 5 i0 (.int .u8 0) (by kernel_rfl) hi hz0 .i64 .i64 (s.size:Int) (s.size:Int) (by omega) (by omega) (by rw[hz2];omega) (by omega);rw[←hM] at h;simpa using h
  clear hM;have hcp:=Lib.run_copy_row_string (P:=prog) (w.alloc (.cells M 5)) 117 9 3 5 w.heap.size 0 s.size s.size s M 5 (by kernel_rfl) hinfo (ql w _) qr (by omega);obtain⟨Y,hY⟩:∃Y,Y=(M.toList.take 0++Lib.byteCells s.data.toList++M.toList.drop (0+s.size)).toArray:=⟨_,rfl⟩;rw[←hY] at hcp;have hYl:Y.toList=Lib.byteCells s.data.toList:=by
   rw[hY,List.toList_toArray,List.take_zero,List.nil_append,List.drop_of_length_le (by rw[Array.length_toList];omega),List.append_nil]
  have hYs:Y.size=s.size:=by rw[←Array.length_toList,hYl,Lib.byteCells_length,←Lib.size_eq]
  have hgY:((w.alloc (.cells M 5)).setRow w.heap.size Y).heap[w.heap.size]? =some (.cells Y 5 (0,0)):=setRow_heap _ _ M _ 5 (0,0) (ql w _);have hne:s.data.toList≠[]:=fun e=>h0 (by rw[Lib.size_eq,e];rfl)
  have hUS:=Lib.run_unsafeString_row (P:=prog) ((w.alloc (.cells M 5)).setRow w.heap.size Y) 175 3 9 5 (by kernel_rfl) hco w.heap.size Y.size (by unfold World.shape?;rw[hgY]) s.data.toList hne (by rw[←Lib.size_eq];omega) (by rw[←Lib.size_eq];omega)
   (fun j x hx=>Lib.cells_of_row hgY Y.size j _ (by rw[List.take_of_length_le (by rw[Array.length_toList];exact Nat.le_refl _),hYl];simp[Lib.byteCells,hx]))
  rw[←Lib.size_eq] at hUS;clear hY;go_enter func163,ntmps163;go_wp2;go_ret;have hb1:Below w.heap.size w (w.alloc (.cells M 5)):=(Below.refl _ w).alloc qr _;have hb2:Below w.heap.size (w.alloc (.cells M 5)) ((w.alloc (.cells M 5)).setRow w.heap.size Y):=⟨rfl,rfl,rfl,by simp,fun k hk=>setRow_other _ _ _ _ (by omega)⟩;exact⟨rfl,Keep.of_below (Lib.below_freeze (hb1.trans hb2) (p:=⟨w.heap.size,0,none⟩) qr _)⟩
theorem ix(fn s:ByteArray)(w:World)(hlim:s.size≤100000)(hg:SG w):
  Calls prog 150 #[.string fn,.string s] w fun e w'=>∃N,e= .returned (.pointer (some ⟨N,0,none⟩))∧Keep w w':=by
 obtain⟨T,a,hv⟩:=hg.e11;have HV:=Z hv;clear hg;go_enter func150,ntmps150;go_wp2_with fail;go_region_with (go_at_call 163;refine(kN s _ hlim).mono ?_;rintro e w2 ⟨rfl,kk⟩;have hv2:=Keep.cell kk (show w.drew.cell? _=_ from HV))
 all_goals
  go_wp2_with fail;go_ret;exact⟨_,rfl,(Fr.trans ((Fr.refl w).drew) kk).alloc _⟩
theorem iX(fn s:ByteArray)(w:World)(hlim:s.size≤100000)(hg:SG w):
  Calls prog 151 #[.string fn,.string s] w fun e w'=>∃N,e= .returned (.pointer (some ⟨N,0,none⟩))∧Keep w w':=by
 obtain⟨T,a,hv⟩:=hg.e12;have HV:=Z hv;clear hg;go_enter func151,ntmps151;go_wp2_with fail;go_region_with (go_at_call 163;refine(kN s _ hlim).mono ?_;rintro e w2 ⟨rfl,kk⟩;have hv2:=Keep.cell kk (show w.drew.cell? _=_ from HV))
 all_goals
  go_wp2_with fail;go_ret;exact⟨_,rfl,(Fr.trans ((Fr.refl w).drew) kk).alloc _⟩
theorem oB(a b:Int)(w:World):(binOp .eql 63 (.iface 218 (.int .i64 a)) (.iface 218 (.int .i64 b))).run prog w= .ok (.bool (a==b)) w:=Lib.run_eql_iface_int (q:= .i64) w a b underlying63 (by kernel_rfl) (by kernel_rfl)
theorem dB(fn s:ByteArray)(base bits:Int)(k:Int)(hk:k=1∨k=2)(w:World)(hlim:s.size≤100000)(hg:SG w):
  Calls prog 132 #[.string fn,.string s,.int .i64 base,.int .i64 bits,.iface 218 (.int .i64 k)] w fun e w'=>∃N,e= .returned (.iface 219 (.pointer (some ⟨N,0,none⟩)))∧Keep w w':=by
 have HG:=Z hg;clear hg;have e12:∀w,_:=oB 1 2;have e11:∀w,_:=oB 1 1;have e22:∀w,_:=oB 2 2;rcases hk with rfl|rfl
 ·go_enter func132,ntmps132;go_wp2_with (go_at_call 151;refine(iX fn s _ hlim HG).mono ?_;rintro e w2 ⟨N,rfl,kk⟩);go_ret;exact⟨N,rfl,kk⟩
 ·go_enter func132,ntmps132;go_wp2_with (go_at_call 150;refine(ix fn s _ hlim HG).mono ?_;rintro e w2 ⟨N,rfl,kk⟩);go_ret;exact⟨N,rfl,kk⟩
theorem am(c:Int)(w:World):Calls prog 157 #[.int .u8 c] w fun e w'=>e= .returned (.int .u8 (bits .or .u8 c 32))∧w=w':=by
 go_enter func157,ntmps157;go_wp2;go_ret;exact⟨rfl,rfl⟩
def cr:Array Value:=#[.int .i64 0,.int .i64 0,.int .i64 0,.string ⟨#[]⟩,.int .u64 0,.slice none 0 0]
theorem mq{P:Program}{ops:Array Oper}{rest:List Oper}{Q:Exit→Act→World→Prop}{a:Act}{w:World}(I:World→Prop)(h:I w)(k:∀w',I w'→wpList P ops Q rest a w'):wpList P ops Q rest a w:=k w h
theorem yH(x y z V:Value):#[x,y,z] ++ ((Array.replicate 19 undef).setIfInBounds 3 V).setIfInBounds 0 V=#[x,y,z,V,undef,undef,V,undef,undef,undef,undef,undef,undef,undef,undef,undef,undef,undef,undef,undef,undef,undef]:=by
 apply Array.ext';simp only[Array.toList_append,Array.toList_setIfInBounds,Array.toList_replicate];rfl
theorem kU{P:Program}{c:Code}{Q:Exit→Act→List Frame→World→Prop}{a:Act}{cs:List Frame}{w:World}(h:∀Q2:Exit→Act→World→Prop,(∀e a' w',Q e a' cs w'→Q2 e a' w')→c.wp P Q2 a w):c.wpS P Q a cs w:=wpS_of_wp (h _ fun _ _ _ h=>h)
theorem oF(x y z:Addr)(w:World):
  CallsD prog 14 #[.pointer (some x),.pointer (some y),.pointer (some z)] .returning w fun e u' w'=>e= .returned (.tuple #[])∧u'= .returning∧w'=w:=by
 refine callsD_of_wpS func14 rfl fun c₀ cs hu=>?_
 apply wpS_seq;apply wpS_region;simp[wpOpsS,go_sem,recoverD,hu,ntmps14,Exit.thenS];refine kU fun Q2 hQ=>?_
 rw[yH];go_wp2_with fail;cases c₀
 simp_all [bodyPostS,results,results14]
theorem oE(pp nn hh bp:Nat)(a b d v0:Value)(old:Array Value)(how:Int)(w:World)(hp:w.cell? ⟨pp,0,none⟩=some (.pointer (some ⟨bp,0,none⟩)))(hb:w.heap[bp]? =some (.cells #[a,b,.int .i64 how,d] 51 (0,0)))(hn:w.heap[nn]? =some (.cells old 26 (0,0)))(ho:old.size=6)(hh':w.heap[hh]? =some (.cells #[v0] 3 (0,0)))(hne:nn≠hh):
  CallsD prog 14 #[.pointer (some ⟨pp,0,none⟩),.pointer (some ⟨nn,0,none⟩),.pointer (some ⟨hh,0,none⟩)] (.panicking [{v:= .iface 53 (.agg #[]),recovered:=false}]) w fun e u' w'=>
   e= .returned (.tuple #[])∧u'= .panicking [{v:= .iface 53 (.agg #[]),recovered:=true}]∧w'.heap[nn]? =some (.cells cr 26 (0,0))∧w'.heap[hh]? =some (.cells #[.int .i64 how] 3 (0,0))∧Fr (fun k=>k=nn∨k=hh) w w':=by
 refine callsD_of_wpS func14 rfl fun c₀ cs hu=>?_
 apply wpS_seq;apply wpS_region;simp[wpOpsS,go_sem,recoverD,hu,ntmps14,Exit.thenS];refine kU fun Q2 hQ=>?_
 rw[yH];have p0:=hp;have hta:∀w,(Instr.typeAssert (Value.iface 53 (Value.agg #[])) 20 53 true).run prog w= .ok (.tuple #[.agg #[],.bool true]) w:=fun _=>by kernel_rfl
 have b2:w.cell? ⟨bp,2,none⟩=some (.int .i64 how):=ab hb 2;have h0:w.cell? ⟨hh,0,none⟩=some v0:=ab hh' 0;have hf:w.frozen? ⟨hh,0,none⟩=false:=ae hh' 0;have hlb:=af hb;have hlh:=af hh';have hln:=af hn;have hlp:=ax hp;go_wp2_with (refine aw (Keep.blk ((Fr.refl w).alloc _) hn) ho rfl rfl ?_;refine Hid.out ?_);refine Z ?_;refine mq (fun x=>x.heap[nn]? =some (.cells cr 26 (0,0))∧Fr (fun k=>k=nn∨k=hh) w x∧x.heap[hh]? =some (.cells #[v0] 3 (0,0))) ⟨setRow_heap _ _ _ _ _ _ (Keep.blk ((Fr.refl w).alloc _) hn),?_,?_⟩ ?_
 ·exact((Fr.refl w).alloc _).trans ⟨rfl,rfl,rfl,by simp,fun k _ hk=>setRow_other _ _ _ _ (fun e=>hk (.inl e))⟩
 ·rw[setRow_other _ _ _ _ (fun e=>hne e.symm)];exact Keep.blk ((Fr.refl w).alloc _) hh'
 intro x hx;have HX:=Z hx;have x0:x.cell? ⟨hh,0,none⟩=some v0:=ab hx.2.2 0;have xf:x.frozen? ⟨hh,0,none⟩=false:=ae hx.2.2 0;have xl:=af hx.2.2;clear hx h0 hf hlh hlb hln hlp b2 p0;go_wp2_with fail;have hs:(x.setCell ⟨hh,0,none⟩ (.int .i64 how)).heap[hh]? =some (.cells #[.int .i64 how] 3 (0,0)):=by
  rw[ag HX.2.2];rfl
 have HS:=Z hs;clear hs;cases c₀
 simp_all [bodyPostS,results,results14]
 refine⟨?_,HS,HX.2.1.setIn _ (.inr rfl)⟩;rw[←HX.1];exact Below.heap_setCell _ _ _ _ hne
end Go.Proofs.YtnclklfhjbkjhaaGreatDoor
