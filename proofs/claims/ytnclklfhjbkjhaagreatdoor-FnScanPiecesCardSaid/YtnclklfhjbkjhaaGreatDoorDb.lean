/- Part of the proof: D1. -/
import Derived.Test.YtnclklfhjbkjhaaGreatDoorDa
set_option maxRecDepth 1000000
set_option maxHeartbeats 40000000
namespace Go.Proofs.YtnclklfhjbkjhaaGreatDoor
open Tryz
open Go.RowKit Go.Lib
def no(n b0 b1 b2:Nat):Bool:=
 decide (firstT b0%8≤n) || (decide (1<n) && (decide (b1<accLo (firstT b0/16)) ||decide (accHi (firstT b0/16) <b1))) || (decide (2<n) && (decide (b2<128) ||decide (191<b2)))
def gO(l:List UInt8):Bool:=if l=[] then false else no l.length (bt l 0) (bt l 1) (bt l 2)
theorem jr{b:Nat}(h2:b<240):firstT b=240∨firstT b=241∨firstT b=2∨firstT b=19∨firstT b=3∨firstT b=35:=by
 unfold firstT
 repeat' split
 all_goals omega
theorem lW(k o cp:Nat)(l:List UInt8)(w:World)(h:eB w k o l)(hT:Utf8Tabs 7 8 w)(hf:bt l 0<240)(hcp:l.length≤10000000):
  Calls prog 126 #[.slice (some ⟨k,o,none⟩) l.length cp] w fun e w'=>e= .returned (.bool (gO l))∧Keep w w':=by
 by_cases hl:l=[]
 ·subst hl;go_enter func126,ntmps126;go_wp2;go_ret;exact⟨rfl,Fr.refl _⟩
 have hpos:0<l.length:=by cases l with|nil=>exact absurd rfl hl|cons=>simp
 have g0:w.cell? ⟨k,o,none⟩=some (.int .u8 (bt l 0)):=h 0 hpos;have hkw:=ax g0;have e0:gO l=no l.length (bt l 0) (bt l 1) (bt l 2):=by unfold gO;rw[if_neg hl]
 rw[e0];unfold no;have l0:=nG l 0;have l1:=nG l 1;have l2:=nG l 2;have h1:1<l.length→w.cell? ⟨k,o+1,none⟩=some (.int .u8 (bt l 1)):=h 1;have h2:2<l.length→w.cell? ⟨k,o+2,none⟩=some (.int .u8 (bt l 2)):=h 2;generalize bt l 0=x0 at*
 generalize bt l 1=x1 at*
 generalize bt l 2=x2 at*
 have hc0:=hT.1 x0 (by omega);generalize l.length=n at*
 clear h e0 hl;have hz0:(0:Int) < (n:Int):=by omega
 have hz0':¬ ((n:Int)=0):=by omega
 rcases jr hf with hX|hX|hX|hX|hX|hX
 ·rw[hX] at hc0 ⊢;clear hT hX h1 h2;have hs:(0:Int)≤(n:Int):=by omega
  go_enter func126,ntmps126;go_wp2;go_ret;refine⟨?_,Fr.refl _⟩;have:decide (240%8≤n)=true:=by(first|(simp;done)|(simp;omega))
  rw[this];rfl
 ·rw[hX] at hc0 ⊢;clear hT hX h1 h2;have hs:(1:Int)≤(n:Int):=by omega
  go_enter func126,ntmps126;go_wp2;go_ret;refine⟨?_,Fr.refl _⟩;have:decide (241%8≤n)=true:=by(first|(simp;done)|(simp;omega))
  rw[this];rfl
 ·rw[hX] at hc0 ⊢;have ha0:=(hT.2 0 (by omega)).1;have ha1:=(hT.2 0 (by omega)).2;simp only[accLo,accHi,Nat.reduceMul,Nat.reduceAdd,Nat.reduceEqDiff,if_true,if_false,Nat.reduceMod,Nat.reduceDiv] at ha0 ha1 ⊢;clear hT hX;by_cases hn:n<2
  ·have hnz:¬ (2:Int)≤(n:Int):=by omega
   by_cases hn1:n=1
   ·have hx1:decide ((n:Int) >1)=false:=by simp;omega
    have hx2:decide ((n:Int) >2)=false:=by simp;omega
    have hy1:decide ((1:Int) < (n:Int))=false:=by simp;omega
    have hy2:decide ((2:Int) < (n:Int))=false:=by simp;omega
    clear h1 h2;go_enter func126,ntmps126;go_wp2;go_region;go_wp2;go_ret;refine⟨?_,((Fr.refl _).alloc _).drew⟩;congr 2;simp;omega
   ·exfalso;omega
  ·have hs:(2:Int)≤(n:Int):=by omega
   clear h1 h2;go_enter func126,ntmps126;go_wp2;go_ret;refine⟨?_,Fr.refl _⟩;have:decide (2≤n)=true:=by(first|(simp;done)|(simp;omega))
   rw[this];rfl
 ·rw[hX] at hc0 ⊢;have ha0:=(hT.2 1 (by omega)).1;have ha1:=(hT.2 1 (by omega)).2;simp only[accLo,accHi,Nat.reduceMul,Nat.reduceAdd,Nat.reduceEqDiff,if_true,if_false,Nat.reduceMod,Nat.reduceDiv] at ha0 ha1 ⊢;clear hT hX;by_cases hn:n<3
  ·have hnz:¬ (3:Int)≤(n:Int):=by omega
   by_cases hn1:n=1
   ·have hx1:decide ((n:Int) >1)=false:=by simp;omega
    have hx2:decide ((n:Int) >2)=false:=by simp;omega
    have hy1:decide ((1:Int) < (n:Int))=false:=by simp;omega
    have hy2:decide ((2:Int) < (n:Int))=false:=by simp;omega
    clear h1 h2;go_enter func126,ntmps126;go_wp2;go_region;go_wp2;go_ret;refine⟨?_,((Fr.refl _).alloc _).drew⟩;congr 2;simp;omega
   ·have hx1:decide ((n:Int) >1)=true:=by simp;omega
    have hx2:decide ((n:Int) >2)=false:=by simp;omega
    have hy1:decide ((1:Int) < (n:Int))=true:=by simp;omega
    have hy2:decide ((2:Int) < (n:Int))=false:=by simp;omega
    have g1:=h1 (by omega);clear h1 h2;by_cases c1:x1<160
    ·have c1':decide ((x1:Int) <160)=true:=by simp;omega
     go_enter func126,ntmps126;go_wp2;go_region;go_wp2;go_ret;refine⟨?_,((Fr.refl _).alloc _).drew⟩;congr 2;simp;omega
    ·have c1':decide ((x1:Int) <160)=false:=by simp;omega
     by_cases c2:191<x1
     ·have c2':decide ((191:Int) < (x1:Int))=true:=by simp;omega
      go_enter func126,ntmps126;go_wp2;go_region;go_wp2;go_ret;refine⟨?_,((Fr.refl _).alloc _).drew⟩;congr 2;simp;omega
     ·have c2':decide ((191:Int) < (x1:Int))=false:=by simp;omega
      go_enter func126,ntmps126;go_wp2;go_region;go_wp2;go_ret;refine⟨?_,((Fr.refl _).alloc _).drew⟩;congr 2;simp;omega
  ·have hs:(3:Int)≤(n:Int):=by omega
   clear h1 h2;go_enter func126,ntmps126;go_wp2;go_ret;refine⟨?_,Fr.refl _⟩;have:decide (3≤n)=true:=by(first|(simp;done)|(simp;omega))
   rw[this];rfl
 ·rw[hX] at hc0 ⊢;have ha0:=(hT.2 0 (by omega)).1;have ha1:=(hT.2 0 (by omega)).2;simp only[accLo,accHi,Nat.reduceMul,Nat.reduceAdd,Nat.reduceEqDiff,if_true,if_false,Nat.reduceMod,Nat.reduceDiv] at ha0 ha1 ⊢;clear hT hX;by_cases hn:n<3
  ·have hnz:¬ (3:Int)≤(n:Int):=by omega
   by_cases hn1:n=1
   ·have hx1:decide ((n:Int) >1)=false:=by simp;omega
    have hx2:decide ((n:Int) >2)=false:=by simp;omega
    have hy1:decide ((1:Int) < (n:Int))=false:=by simp;omega
    have hy2:decide ((2:Int) < (n:Int))=false:=by simp;omega
    clear h1 h2;go_enter func126,ntmps126;go_wp2;go_region;go_wp2;go_ret;refine⟨?_,((Fr.refl _).alloc _).drew⟩;congr 2;simp;omega
   ·have hx1:decide ((n:Int) >1)=true:=by simp;omega
    have hx2:decide ((n:Int) >2)=false:=by simp;omega
    have hy1:decide ((1:Int) < (n:Int))=true:=by simp;omega
    have hy2:decide ((2:Int) < (n:Int))=false:=by simp;omega
    have g1:=h1 (by omega);clear h1 h2;by_cases c1:x1<128
    ·have c1':decide ((x1:Int) <128)=true:=by simp;omega
     go_enter func126,ntmps126;go_wp2;go_region;go_wp2;go_ret;refine⟨?_,((Fr.refl _).alloc _).drew⟩;congr 2;simp;omega
    ·have c1':decide ((x1:Int) <128)=false:=by simp;omega
     by_cases c2:191<x1
     ·have c2':decide ((191:Int) < (x1:Int))=true:=by simp;omega
      go_enter func126,ntmps126;go_wp2;go_region;go_wp2;go_ret;refine⟨?_,((Fr.refl _).alloc _).drew⟩;congr 2;simp;omega
     ·have c2':decide ((191:Int) < (x1:Int))=false:=by simp;omega
      go_enter func126,ntmps126;go_wp2;go_region;go_wp2;go_ret;refine⟨?_,((Fr.refl _).alloc _).drew⟩;congr 2;simp;omega
  ·have hs:(3:Int)≤(n:Int):=by omega
   clear h1 h2;go_enter func126,ntmps126;go_wp2;go_ret;refine⟨?_,Fr.refl _⟩;have:decide (3≤n)=true:=by(first|(simp;done)|(simp;omega))
   rw[this];rfl
 ·rw[hX] at hc0 ⊢;have ha0:=(hT.2 2 (by omega)).1;have ha1:=(hT.2 2 (by omega)).2;simp only[accLo,accHi,Nat.reduceMul,Nat.reduceAdd,Nat.reduceEqDiff,if_true,if_false,Nat.reduceMod,Nat.reduceDiv] at ha0 ha1 ⊢;clear hT hX;by_cases hn:n<3
  ·have hnz:¬ (3:Int)≤(n:Int):=by omega
   by_cases hn1:n=1
   ·have hx1:decide ((n:Int) >1)=false:=by simp;omega
    have hx2:decide ((n:Int) >2)=false:=by simp;omega
    have hy1:decide ((1:Int) < (n:Int))=false:=by simp;omega
    have hy2:decide ((2:Int) < (n:Int))=false:=by simp;omega
    clear h1 h2;go_enter func126,ntmps126;go_wp2;go_region;go_wp2;go_ret;refine⟨?_,((Fr.refl _).alloc _).drew⟩;congr 2;simp;omega
   ·have hx1:decide ((n:Int) >1)=true:=by simp;omega
    have hx2:decide ((n:Int) >2)=false:=by simp;omega
    have hy1:decide ((1:Int) < (n:Int))=true:=by simp;omega
    have hy2:decide ((2:Int) < (n:Int))=false:=by simp;omega
    have g1:=h1 (by omega);clear h1 h2;by_cases c1:x1<128
    ·have c1':decide ((x1:Int) <128)=true:=by simp;omega
     go_enter func126,ntmps126;go_wp2;go_region;go_wp2;go_ret;refine⟨?_,((Fr.refl _).alloc _).drew⟩;congr 2;simp;omega
    ·have c1':decide ((x1:Int) <128)=false:=by simp;omega
     by_cases c2:159<x1
     ·have c2':decide ((159:Int) < (x1:Int))=true:=by simp;omega
      go_enter func126,ntmps126;go_wp2;go_region;go_wp2;go_ret;refine⟨?_,((Fr.refl _).alloc _).drew⟩;congr 2;simp;omega
     ·have c2':decide ((159:Int) < (x1:Int))=false:=by simp;omega
      go_enter func126,ntmps126;go_wp2;go_region;go_wp2;go_ret;refine⟨?_,((Fr.refl _).alloc _).drew⟩;congr 2;simp;omega
  ·have hs:(3:Int)≤(n:Int):=by omega
   clear h1 h2;go_enter func126,ntmps126;go_wp2;go_ret;refine⟨?_,Fr.refl _⟩;have:decide (3≤n)=true:=by(first|(simp;done)|(simp;omega))
   rw[this];rfl
end Go.Proofs.YtnclklfhjbkjhaaGreatDoor
