/- Part of the proof: D0. -/
import Derived.Test.YtnclklfhjbkjhaaGreatDoorAa
import Derived.Lib.DecodeN
import Derived.Shelf.Unicode.DecodeSlow
set_option maxRecDepth 1000000
set_option maxHeartbeats 40000000
namespace Go.Proofs.YtnclklfhjbkjhaaGreatDoor
open Tryz
open Go.RowKit Go.Lib
def nE(n b0 b1 b2 b3:Nat):Nat×Nat:=
 if b0<128 then(b0,1) else if firstT b0=241 then(65533,1) else slowN n b0 b1 b2 b3 (firstT b0%8) (accLo (firstT b0/16)) (accHi (firstT b0/16))
def bt(l:List UInt8)(i:Nat):Nat:=(l.getD i 0).toNat
def ex(l:List UInt8):Nat×Nat:=if l=[] then(65533,0) else nE l.length (bt l 0) (bt l 1) (bt l 2) (bt l 3)
def eB(w:World)(k o:Nat)(l:List UInt8):Prop:=∀i,i<l.length→w.cell? ⟨k,o+i,none⟩=some (.int .u8 (bt l i))
theorem nG(l:List UInt8)(i:Nat):bt l i<256:=(l.getD i 0).toNat_lt
theorem jq{b:Nat}(h1:128≤b)(h2:b<240):firstT b=241∨firstT b=2∨firstT b=19∨firstT b=3∨firstT b=35:=by
 unfold firstT
 repeat' split
 all_goals omega
theorem oy{b:Nat}(h1:b<128):firstT b=240:=by
 unfold firstT;rw[if_pos h1]
theorem jz(k o cp:Nat)(l:List UInt8)(w:World)(h:eB w k o l)(hl:l≠[])(hT:Utf8Tabs 7 8 w)(hb:128≤bt l 0)(hf:bt l 0<240)(hcp:l.length≤10000000):
  Calls prog 145 #[.slice (some ⟨k,o,none⟩) l.length cp] w fun e w'=>e= .returned (.tuple #[.int .i32 (ex l).1,.int .i64 (ex l).2])∧Keep w w':=by
 have hpos:0<l.length:=by cases l with|nil=>exact absurd rfl hl|cons=>simp
 have g0:w.cell? ⟨k,o,none⟩=some (.int .u8 (bt l 0)):=h 0 hpos;have hkw:=ax g0;have e0:ex l=nE l.length (bt l 0) (bt l 1) (bt l 2) (bt l 3):=by unfold ex;rw[if_neg hl]
 rw[e0];unfold nE;rw[if_neg (by omega)];have l1:=nG l 1;have l2:=nG l 2;have h1:1<l.length→w.cell? ⟨k,o+1,none⟩=some (.int .u8 (bt l 1)):=h 1;have h2:2<l.length→w.cell? ⟨k,o+2,none⟩=some (.int .u8 (bt l 2)):=h 2;generalize bt l 0=x0 at*
 generalize bt l 1=x1 at*
 generalize bt l 2=x2 at*
 generalize bt l 3=x3 at*
 have hc0:=hT.1 x0 (by omega);generalize l.length=n at*
 clear h e0 hl;have hz0:(0:Int) < (n:Int):=by omega
 have hz0':¬ ((n:Int) <1):=by omega
 rcases jq hb hf with hX|hX|hX|hX|hX
 ·rw[if_pos hX];rw[hX] at hc0;clear hT hX h1 h2;go_enter func145,ntmps145;go_wp2;rw[Utf8W.mask241,Utf8W.drop_byte ⟨x0,by omega⟩]
  go_ret2
  exact⟨rfl,Fr.refl _⟩
 ·rw[if_neg (by rw[hX];decide)];rw[hX] at hc0 ⊢;have ha0:=(hT.2 0 (by omega)).1;have ha1:=(hT.2 0 (by omega)).2;simp only[accLo,accHi,Nat.reduceMul,Nat.reduceAdd,Nat.reduceEqDiff,if_true,if_false,Nat.reduceMod,Nat.reduceDiv] at ha0 ha1 ⊢;clear hT hX;by_cases hn:n<2
  ·have hnz:(n:Int) <2:=by omega
   clear h1 h2;go_enter func145,ntmps145;go_wp2
   all_goals
    go_ret2
    refine⟨?_,(Fr.refl _).alloc _⟩
    (unfold slowN
     repeat' split
     all_goals first
      |(exfalso;omega)
      |rfl
      |(simp only[Int.natCast_add,Int.natCast_mul,Int.natCast_emod,Int.natCast_ofNat];rfl))
  ·have g1:=h1 (by omega);have hz1:(1:Int) < (n:Int):=by omega
   clear h1 h2;go_enter func145,ntmps145;go_wp2
   all_goals
    go_ret2
    refine⟨?_,(Fr.refl _).alloc _⟩
    (unfold slowN
     repeat' split
     all_goals first
      |(exfalso;omega)
      |rfl
      |(simp only[Int.natCast_add,Int.natCast_mul,Int.natCast_emod,Int.natCast_ofNat];rfl))
 ·rw[if_neg (by rw[hX];decide)];rw[hX] at hc0 ⊢;have ha0:=(hT.2 1 (by omega)).1;have ha1:=(hT.2 1 (by omega)).2;simp only[accLo,accHi,Nat.reduceMul,Nat.reduceAdd,Nat.reduceEqDiff,if_true,if_false,Nat.reduceMod,Nat.reduceDiv] at ha0 ha1 ⊢;clear hT hX;by_cases hn:n<3
  ·have hnz:(n:Int) <3:=by omega
   clear h1 h2;go_enter func145,ntmps145;go_wp2
   all_goals
    go_ret2
    refine⟨?_,(Fr.refl _).alloc _⟩
    (unfold slowN
     repeat' split
     all_goals first
      |(exfalso;omega)
      |rfl
      |(simp only[Int.natCast_add,Int.natCast_mul,Int.natCast_emod,Int.natCast_ofNat];rfl))
  ·have g1:=h1 (by omega);have hz1:(1:Int) < (n:Int):=by omega
   have g2:=h2 (by omega);have hz2:(2:Int) < (n:Int):=by omega
   clear h1 h2;go_enter func145,ntmps145;go_wp2
   all_goals
    go_ret2
    refine⟨?_,(Fr.refl _).alloc _⟩
    (unfold slowN
     repeat' split
     all_goals first
      |(exfalso;omega)
      |rfl
      |(simp only[Int.natCast_add,Int.natCast_mul,Int.natCast_emod,Int.natCast_ofNat];rfl))
 ·rw[if_neg (by rw[hX];decide)];rw[hX] at hc0 ⊢;have ha0:=(hT.2 0 (by omega)).1;have ha1:=(hT.2 0 (by omega)).2;simp only[accLo,accHi,Nat.reduceMul,Nat.reduceAdd,Nat.reduceEqDiff,if_true,if_false,Nat.reduceMod,Nat.reduceDiv] at ha0 ha1 ⊢;clear hT hX;by_cases hn:n<3
  ·have hnz:(n:Int) <3:=by omega
   clear h1 h2;go_enter func145,ntmps145;go_wp2
   all_goals
    go_ret2
    refine⟨?_,(Fr.refl _).alloc _⟩
    (unfold slowN
     repeat' split
     all_goals first
      |(exfalso;omega)
      |rfl
      |(simp only[Int.natCast_add,Int.natCast_mul,Int.natCast_emod,Int.natCast_ofNat];rfl))
  ·have g1:=h1 (by omega);have hz1:(1:Int) < (n:Int):=by omega
   have g2:=h2 (by omega);have hz2:(2:Int) < (n:Int):=by omega
   clear h1 h2;go_enter func145,ntmps145;go_wp2
   all_goals
    go_ret2
    refine⟨?_,(Fr.refl _).alloc _⟩
    (unfold slowN
     repeat' split
     all_goals first
      |(exfalso;omega)
      |rfl
      |(simp only[Int.natCast_add,Int.natCast_mul,Int.natCast_emod,Int.natCast_ofNat];rfl))
 ·rw[if_neg (by rw[hX];decide)];rw[hX] at hc0 ⊢;have ha0:=(hT.2 2 (by omega)).1;have ha1:=(hT.2 2 (by omega)).2;simp only[accLo,accHi,Nat.reduceMul,Nat.reduceAdd,Nat.reduceEqDiff,if_true,if_false,Nat.reduceMod,Nat.reduceDiv] at ha0 ha1 ⊢;clear hT hX;by_cases hn:n<3
  ·have hnz:(n:Int) <3:=by omega
   clear h1 h2;go_enter func145,ntmps145;go_wp2
   all_goals
    go_ret2
    refine⟨?_,(Fr.refl _).alloc _⟩
    (unfold slowN
     repeat' split
     all_goals first
      |(exfalso;omega)
      |rfl
      |(simp only[Int.natCast_add,Int.natCast_mul,Int.natCast_emod,Int.natCast_ofNat];rfl))
  ·have g1:=h1 (by omega);have hz1:(1:Int) < (n:Int):=by omega
   have g2:=h2 (by omega);have hz2:(2:Int) < (n:Int):=by omega
   clear h1 h2;go_enter func145,ntmps145;go_wp2
   all_goals
    go_ret2
    refine⟨?_,(Fr.refl _).alloc _⟩
    (unfold slowN
     repeat' split
     all_goals first
      |(exfalso;omega)
      |rfl
      |(simp only[Int.natCast_add,Int.natCast_mul,Int.natCast_emod,Int.natCast_ofNat];rfl))
theorem jA(k o cp:Nat)(l:List UInt8)(w:World)(h:eB w k o l)(hl:l≠[])(hT:Utf8Tabs 7 8 w)(hf:bt l 0<240)(hcp:l.length≤10000000):
  Calls prog 127 #[.slice (some ⟨k,o,none⟩) l.length cp] w fun e w'=>e= .returned (.tuple #[.int .i32 (ex l).1,.int .i64 (ex l).2])∧Keep w w':=by
 have hpos:0<l.length:=by cases l with|nil=>exact absurd rfl hl|cons=>simp
 have g0:w.cell? ⟨k,o,none⟩=some (.int .u8 (bt l 0)):=h 0 hpos;by_cases hb:128≤bt l 0
 ·have C:=jz k o cp l w h hl hT hb hf hcp;have HC:=Z C;clear C;have hnb:¬ ((bt l 0:Nat):Int) <128:=by omega
  generalize ex l=D at*
  generalize bt l 0=x0 at*
  have hz0:(0:Int) < (l.length:Int):=by omega
  clear h hT hl;generalize l.length=n at*
  go_enter func127,ntmps127;go_wp2_with fail;go_loopw [8] (fun u wr=>u= .int .i64 0∧wr=w) (fun _ _=>0)
  case atStart=>exact⟨rfl,rfl⟩
  case round=>
   obtain⟨rfl,rfl⟩:=hrel;go_wp2_with fail;refine HC.mono ?_;rintro e w' ⟨rfl,hb⟩;go_wp2_with fail
   go_ret2
   exact⟨rfl,hb⟩
 ·have hnb:((bt l 0:Nat):Int) <128:=by omega
  have e0:ex l=(bt l 0,1):=by unfold ex nE;rw[if_neg hl,if_pos (by omega)]
  rw[e0];generalize bt l 0=x0 at*
  have hz0:(0:Int) < (l.length:Int):=by omega
  clear h hT hl e0;generalize l.length=n at*
  go_enter func127,ntmps127;go_wp2_with fail;go_loopw [8] (fun u wr=>u= .int .i64 0∧wr=w) (fun _ _=>0)
  case atStart=>exact⟨rfl,rfl⟩
  case round=>
   obtain⟨rfl,rfl⟩:=hrel;go_wp2_with fail
   go_ret2
   exact⟨rfl,Fr.refl _⟩
end Go.Proofs.YtnclklfhjbkjhaaGreatDoor
