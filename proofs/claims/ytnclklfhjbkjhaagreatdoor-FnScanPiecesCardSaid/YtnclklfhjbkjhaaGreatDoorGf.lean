/- Part of the proof: G6 G8 G9 I1 I2 I3. -/
import Derived.Test.YtnclklfhjbkjhaaGreatDoorFa
import Derived.Test.YtnclklfhjbkjhaaGreatDoorGa
import Derived.Laws.BitsAllLaws
set_option maxRecDepth 1000000
set_option maxHeartbeats 40000000
set_option linter.unusedSimpArgs false
namespace Go.Proofs.YtnclklfhjbkjhaaGreatDoor
open Tryz
open Go.RowKit
theorem mx(s:ByteArray)(w:World)(hs:s.size≤100000)(hok:RealOk s):Calls prog 171 #[.string s] w (fun e w'=>e= .returned (.tuple #[.float .f64 0,.int .i64 0,.bool false])∧w=w'):=by
 have h0:0<s.size:=hok.2.1;have hz0:(0:Int) < (s.size:Int):=by omega
 have hse:((s.size:Int) ==0)=false:=bf (by omega);have HB0:=Z (aq h0);have hc0:46≤((s[0]'h0).toNat:Int)∧((s[0]'h0).toNat:Int)≤57:=by
  rw[←aq h0];rcases hok.2.2 with h|h
  ·simp only[aV,Bool.and_eq_true,decide_eq_true_eq] at h;omega
  ·omega
 have q43:(((s[0]'h0).toNat:Int) ==43)=false:=bf (by omega);have q45:(((s[0]'h0).toNat:Int) ==45)=false:=bf (by omega);have q105:(((s[0]'h0).toNat:Int) ==105)=false:=bf (by omega);have q73:(((s[0]'h0).toNat:Int) ==73)=false:=bf (by omega);have q110:(((s[0]'h0).toNat:Int) ==110)=false:=bf (by omega);have q78:(((s[0]'h0).toNat:Int) ==78)=false:=bf (by omega);clear hok hc0;go_enter func171,ntmps171;go_wp2_with fail
 all_goals
  try rw[Exit.noGoto_ret]
  exact qh (v:= .tuple #[.float .f64 0,.int .i64 0,.bool false]) (by simp[results,results171,go_sem]) rfl ⟨rfl,rfl⟩
def p10f:Array Nat:=#[4607182418800017408,4621819117588971520,4636737291354636288,4652007308841189376,4666723172467343360,4681608360884174848,4696837146684686336,4711630319722168320,4726483295884279808,4741671816366391296,4756540486875873280,4771362005757984768,4786511204640096256,4801453603149578240,4816244402031689728,4831355200913801216,4846369599423283200,4861130398305394688,4876203697187506176,4891288408196988160,4906019910204099648,4921056587992461136,4936209963552724370]
structure FG(w:World):Prop where
 opt:w.cell? ⟨14,0,none⟩=some (.bool true)
 i0:w.cell? ⟨15,0,none⟩=some (.int .u64 52)
 i1:w.cell? ⟨15,1,none⟩=some (.int .u64 11)
 i2:w.cell? ⟨15,2,none⟩=some (.int .i64 (-1023))
 pow:∃h o,w.cell? ⟨18,0,none⟩=some (.slice (some ⟨h,o,none⟩) 23 23)∧∀k<23,w.cell? ⟨h,o+k,none⟩=some (.float .f64 (p10f.getD k 0))
theorem FG.keep{w w':World}(h:FG w)(k:Keep w w'):FG w':=by
 obtain⟨h1,h2,h3,h4,hh,ho,h5,h6⟩:=h;exact⟨Keep.cell k h1,Keep.cell k h2,Keep.cell k h3,Keep.cell k h4,hh,ho,Keep.cell k h5,fun j hj=>Keep.cell k (h6 j hj)⟩
theorem uw:∀k:Fin 23,0<p10f.getD k.1 0%9223372036854775808∧p10f.getD k.1 0%9223372036854775808<9218868437227405312:=by decide
theorem FG.at{w:World}(h:FG w):∃a o,w.cell? ⟨18,0,none⟩=some (.slice (some ⟨a,o,none⟩) 23 23)∧∀k<23,∃y,w.cell? ⟨a,o+k,none⟩=some (.float .f64 y)∧FZ y:=by
 obtain⟨a,o,h1,h2⟩:=h.pow;exact⟨a,o,h1,fun k hk=>⟨_,h2 k hk,uw ⟨k,hk⟩⟩⟩
def yg(w:World)(e:Ending)(w':World):Prop:=∃ (f:Nat) (ok:Bool),e= .returned (.tuple #[.float .f64 f,.bool ok])∧w=w'
theorem iB(m p:Int)(w:World)(hg:FG w)(_hm0:0≤m)(_hm1:m≤10000000000000000000)(_hp0: -345≤p)(_hp1:p≤310):Calls prog 182 #[.int .u64 m,.int .i64 p,.bool false] w (yg w):=by
 have hi:=hg.i0;obtain⟨a,ao,hs,ht⟩:=hg.at;have HT:=Z ht;clear ht hg;go_enter func182,ntmps182;by_cases h1:p=0
 ·subst h1;go_wp2_with fail
  all_goals
   first|(refine qh (v:= .tuple #[.float .f64 (0),.bool true]) ?_ rfl ⟨_,_,rfl,rfl⟩;simp[results,results182,go_sem];done)|(refine qh (v:= .tuple #[.float .f64 (0),.bool false]) ?_ rfl ⟨_,_,rfl,rfl⟩;simp[results,results182,go_sem];done)|(refine qh (v:= .tuple #[.float .f64 (floatOfInt .f64 m),.bool true]) ?_ rfl ⟨_,_,rfl,rfl⟩;simp[results,results182,go_sem];done)|(refine qh (v:= .tuple #[.float .f64 (floatOfInt .f64 m),.bool false]) ?_ rfl ⟨_,_,rfl,rfl⟩;simp[results,results182,go_sem];done)
 have q0:(p==0)=false:=beq_eq_false_iff_ne.2 h1;by_cases h2:0<p
 ·by_cases h3:p≤22
  ·obtain⟨k,rfl⟩:=Int.eq_ofNat_of_zero_le (Int.le_of_lt h2);have hk:k<23:=by omega
   obtain⟨y,hy,hz⟩:=HT k hk;obtain⟨r,hr,-⟩:=og (jN m) hz;have hrun:∀w,(binOp .mul 179 (.float .f64 (floatOfInt .f64 m)) (.float .f64 y)).run prog w= .ok (.float .f64 r) w:=fun w=>run_float_arith w .mul 179 .f64 _ _ _ hr
   clear hz hr;have hk37:(k:Int)≤37:=by omega
   go_wp2_with fail
   all_goals
    first|(refine qh (v:= .tuple #[.float .f64 (0),.bool true]) ?_ rfl ⟨_,_,rfl,rfl⟩;simp[results,results182,go_sem];done)|(refine qh (v:= .tuple #[.float .f64 (0),.bool false]) ?_ rfl ⟨_,_,rfl,rfl⟩;simp[results,results182,go_sem];done)|(refine qh (v:= .tuple #[.float .f64 (floatOfInt .f64 m),.bool true]) ?_ rfl ⟨_,_,rfl,rfl⟩;simp[results,results182,go_sem];done)|(refine qh (v:= .tuple #[.float .f64 (floatOfInt .f64 m),.bool false]) ?_ rfl ⟨_,_,rfl,rfl⟩;simp[results,results182,go_sem];done)|(refine qh (v:= .tuple #[.float .f64 (r),.bool true]) ?_ rfl ⟨_,_,rfl,rfl⟩;simp[results,results182,go_sem];done)|(refine qh (v:= .tuple #[.float .f64 (r),.bool false]) ?_ rfl ⟨_,_,rfl,rfl⟩;simp[results,results182,go_sem];done)
  ·by_cases h4:p≤37
   ·obtain⟨k,hkp⟩:=Int.eq_ofNat_of_zero_le (show 0≤p-22 by omega);have hk:k<23:=by omega
    have hp22:p=(k:Int)+22:=by omega
    subst hp22;obtain⟨y,hy,hz⟩:=HT k hk;obtain⟨y',hy',hz'⟩:=HT 22 (by decide);obtain⟨r,hr,hrn⟩:=og (jN m) hz;obtain⟨r',hr',-⟩:=og hrn hz';have hrun:∀w,(binOp .mul 179 (.float .f64 (floatOfInt .f64 m)) (.float .f64 y)).run prog w= .ok (.float .f64 r) w:=fun w=>run_float_arith w .mul 179 .f64 _ _ _ hr
    have hrun':∀w,(binOp .mul 179 (.float .f64 r) (.float .f64 y')).run prog w= .ok (.float .f64 r') w:=fun w=>run_float_arith w .mul 179 .f64 _ _ _ hr'
    clear hz hr hz' hr' hrn hkp;have hk22:(22:Int) < (k:Int)+22:=by omega
    go_wp2_with fail
    all_goals
     first|(refine qh (v:= .tuple #[.float .f64 (0),.bool true]) ?_ rfl ⟨_,_,rfl,rfl⟩;simp[results,results182,go_sem];done)|(refine qh (v:= .tuple #[.float .f64 (0),.bool false]) ?_ rfl ⟨_,_,rfl,rfl⟩;simp[results,results182,go_sem];done)|(refine qh (v:= .tuple #[.float .f64 (floatOfInt .f64 m),.bool true]) ?_ rfl ⟨_,_,rfl,rfl⟩;simp[results,results182,go_sem];done)|(refine qh (v:= .tuple #[.float .f64 (floatOfInt .f64 m),.bool false]) ?_ rfl ⟨_,_,rfl,rfl⟩;simp[results,results182,go_sem];done)|(refine qh (v:= .tuple #[.float .f64 (r),.bool true]) ?_ rfl ⟨_,_,rfl,rfl⟩;simp[results,results182,go_sem];done)|(refine qh (v:= .tuple #[.float .f64 (r),.bool false]) ?_ rfl ⟨_,_,rfl,rfl⟩;simp[results,results182,go_sem];done)|(refine qh (v:= .tuple #[.float .f64 (r'),.bool true]) ?_ rfl ⟨_,_,rfl,rfl⟩;simp[results,results182,go_sem];done)|(refine qh (v:= .tuple #[.float .f64 (r'),.bool false]) ?_ rfl ⟨_,_,rfl,rfl⟩;simp[results,results182,go_sem];done)
   ·have hnl:¬p<0:=by omega
    go_wp2_with fail
    all_goals
     first|(refine qh (v:= .tuple #[.float .f64 (0),.bool true]) ?_ rfl ⟨_,_,rfl,rfl⟩;simp[results,results182,go_sem];done)|(refine qh (v:= .tuple #[.float .f64 (0),.bool false]) ?_ rfl ⟨_,_,rfl,rfl⟩;simp[results,results182,go_sem];done)|(refine qh (v:= .tuple #[.float .f64 (floatOfInt .f64 m),.bool true]) ?_ rfl ⟨_,_,rfl,rfl⟩;simp[results,results182,go_sem];done)|(refine qh (v:= .tuple #[.float .f64 (floatOfInt .f64 m),.bool false]) ?_ rfl ⟨_,_,rfl,rfl⟩;simp[results,results182,go_sem];done)
 ·by_cases h3: -22≤p
  ·obtain⟨k,hkp⟩:=Int.eq_ofNat_of_zero_le (show 0≤ -p by omega);have hk:k<23:=by omega
   have hpk:p= -(k:Int):=by omega
   subst hpk;obtain⟨y,hy,hz⟩:=HT k hk;obtain⟨r,hr,-⟩:=xw (jN m) hz;have hrun:∀w,(binOp .quo 179 (.float .f64 (floatOfInt .f64 m)) (.float .f64 y)).run prog w= .ok (.float .f64 r) w:=fun w=>run_float_arith w .quo 179 .f64 _ _ _ hr
   clear hz hr;have hkn: -(k:Int) <0:=by omega
   go_wp2_with fail
   all_goals
    first|(refine qh (v:= .tuple #[.float .f64 (0),.bool true]) ?_ rfl ⟨_,_,rfl,rfl⟩;simp[results,results182,go_sem];done)|(refine qh (v:= .tuple #[.float .f64 (0),.bool false]) ?_ rfl ⟨_,_,rfl,rfl⟩;simp[results,results182,go_sem];done)|(refine qh (v:= .tuple #[.float .f64 (floatOfInt .f64 m),.bool true]) ?_ rfl ⟨_,_,rfl,rfl⟩;simp[results,results182,go_sem];done)|(refine qh (v:= .tuple #[.float .f64 (floatOfInt .f64 m),.bool false]) ?_ rfl ⟨_,_,rfl,rfl⟩;simp[results,results182,go_sem];done)|(refine qh (v:= .tuple #[.float .f64 (r),.bool true]) ?_ rfl ⟨_,_,rfl,rfl⟩;simp[results,results182,go_sem];done)|(refine qh (v:= .tuple #[.float .f64 (r),.bool false]) ?_ rfl ⟨_,_,rfl,rfl⟩;simp[results,results182,go_sem];done)
  ·have hkn:p<0:=by omega
   go_wp2_with fail
   all_goals
    first|(refine qh (v:= .tuple #[.float .f64 (0),.bool true]) ?_ rfl ⟨_,_,rfl,rfl⟩;simp[results,results182,go_sem];done)|(refine qh (v:= .tuple #[.float .f64 (0),.bool false]) ?_ rfl ⟨_,_,rfl,rfl⟩;simp[results,results182,go_sem];done)|(refine qh (v:= .tuple #[.float .f64 (floatOfInt .f64 m),.bool true]) ?_ rfl ⟨_,_,rfl,rfl⟩;simp[results,results182,go_sem];done)|(refine qh (v:= .tuple #[.float .f64 (floatOfInt .f64 m),.bool false]) ?_ rfl ⟨_,_,rfl,rfl⟩;simp[results,results182,go_sem];done)
theorem oI(b:Bool)(w:World):Calls prog 194 #[.bool b] w (fun e w'=>e= .returned (.int .i64 (if b then 1 else 0))∧w=w'):=by
 go_enter func194,ntmps194;cases b
 ·go_wp2_with fail
  all_goals
   first|(go_ret;exact⟨rfl,rfl⟩)|(rename_i h;exact absurd h (by decide))
 ·go_wp2_with fail
  all_goals
   first|(go_ret;exact⟨rfl,rfl⟩)|(rename_i h;exact absurd h (by decide))
theorem fI(p:Int)(w:World)(hp0: -345≤p)(hp1:p≤310):Calls prog 191 #[.int .i64 p] w (fun e w'=>(∃x:Int,e= .returned (.int .i64 x)∧ -1200≤x∧x≤1200)∧w=w'):=by
 have h1: -1200≤p*108853/32768:=by omega
 have h2:p*108853/32768≤1200:=by omega
 go_enter func191,ntmps191;go_wp2_with fail;go_ret;exact⟨⟨_,rfl,h1,h2⟩,rfl⟩
theorem j6(p:Int)(w:World):Calls prog 195 #[.int .u64 p] w (fun e w'=>(∃x:Int,e= .returned (.int .u64 x))∧w=w'):=by
 go_enter func195,ntmps195;go_wp2_with fail;go_ret;exact⟨⟨_,rfl⟩,rfl⟩
theorem km(p:Int)(w:World):Calls prog 197 #[.int .u64 p] w (fun e w'=>(∃x:Int,e= .returned (.int .u64 x))∧w=w'):=by
 go_enter func197,ntmps197;go_wp2_with fail;go_ret;exact⟨⟨_,rfl⟩,rfl⟩
theorem qE(p q:Int)(w:World):Calls prog 205 #[.int .u64 p,.int .u64 q] w (fun e w'=>(∃x y:Int,e= .returned (.tuple #[.int .u64 x,.int .u64 y]))∧w=w'):=by
 go_enter func205,ntmps205;go_wp2_with fail;exact qh (results_tmp2 results205 _ _ _) rfl ⟨⟨_,_,rfl⟩,rfl⟩
theorem xN(T:ByteArray)(h:T.data.all (fun c=>decide (c.toNat≤8))=true)(i:Nat)(hi:i<T.size):(T[i]'hi).toNat≤8:=by
 rw[Array.all_eq_true] at h;exact of_decide_eq_true (h i hi)
theorem w8(n:Int)(T:ByteArray)(h:T.data.all (fun c=>decide (c.toNat≤8))=true)(i:Nat)(hi:i<T.size)(h0:0≤n)(h1:n≤56):0≤wrap64 (n+wrap64 ((T[i]'hi).toNat:Int))∧wrap64 (n+wrap64 ((T[i]'hi).toNat:Int))≤64:=by
 have:=xN T h i hi;unfold wrap64;omega
theorem zM(T:ByteArray)(h:T.data.all (fun c=>decide (c.toNat≤8))=true)(i:Nat)(hi:i<T.size):0≤wrap64 (wrap64 ((T[i]'hi).toNat:Int))∧wrap64 (wrap64 ((T[i]'hi).toNat:Int))≤64:=by
 have:=xN T h i hi;unfold wrap64;omega
theorem zL(T:ByteArray)(h:T.data.all (fun c=>decide (c.toNat≤8))=true)(i:Nat)(hi:i<T.size):0≤wrap64 ((T[i]'hi).toNat:Int)∧wrap64 ((T[i]'hi).toNat:Int)≤64:=by
 have:=xN T h i hi;unfold wrap64;omega
theorem kH(p:Int)(w:World)(h0:0≤p)(h1:p<18446744073709551616):Calls prog 190 #[.int .u64 p] w (fun e w'=>(∃x:Int,e= .returned (.int .i64 x)∧0≤x∧x≤64)∧w=w'):=by
 go_enter func190,ntmps190;go_wp2_with fail
 all_goals
  go_ret;refine⟨⟨_,rfl,?_⟩,rfl⟩
  first|refine w8 _ _ ?_ _ _ ?_ ?_ |refine zM _ ?_ _ _|refine zL _ ?_ _ _
  all_goals first|kernel_rfl|decide
theorem cN(b:Bool)(w:World):Calls prog 180 #[.bool b] w (fun e w'=>e= .returned (.int .u64 (if b then 1 else 0))∧w=w'):=by
 go_enter func180,ntmps180;cases b
 ·go_wp2_with fail
  all_goals
   first|(go_ret;exact⟨rfl,rfl⟩)|(rename_i h;exact absurd h (by decide))
 ·go_wp2_with fail
  all_goals
   first|(go_ret;exact⟨rfl,rfl⟩)|(rename_i h;exact absurd h (by decide))
theorem ir(b:Bool)(w:World):Calls prog 180 #[.bool b] w (fun e w'=>(∃x:Int,e= .returned (.int .u64 x))∧w=w'):=(cN b w).mono fun _ _ h=>⟨⟨_,h.1⟩,h.2⟩
@[go_sem] theorem f64fromI(x:Int)(w:World):Sem.run prog (callFunc 181 #[.int .u64 x]) w= .ok (.value (.float .f64 x.toNat)) w:=by kernel_rfl
theorem n_(m e:Int)(w:World)(h0: -3000≤e)(h1:e≤3000):Calls prog 200 #[.int .u64 m,.int .i64 e] w (fun en w'=>(∃ (f:Nat) (ev:Value),en= .returned (.tuple #[.float .f64 f,ev])∧(ev= .nilIface∨∃T a,ev= .iface T a))∧w=w'):=by
 go_enter func200,ntmps200;go_wp2_with fail
 all_goals
  first|exact qh (results_tmp2 results200 _ _ _) rfl ⟨⟨_,_,rfl,.inl rfl⟩,rfl⟩|exact qh (results_tmp2 results200 _ _ _) rfl ⟨⟨_,_,rfl,.inr ⟨_,_,rfl⟩⟩,rfl⟩
theorem kJ(n:Int):bits .and .i64 n 63=n%64:=by
 have h127:(BitVec.ofInt 64 63).toNat=2^6-1:=by decide
 have key:(BitVec.ofInt 64 n&&& BitVec.ofInt 64 63).toNat=(n% ((2^64:Nat):Int)).toNat%2^6:=by
  rw[BitVec.toNat_and,BitVec.toNat_ofInt,h127,Nat.and_two_pow_sub_one_eq_mod]
 show IntKind.i64.wrap ((BitVec.ofInt 64 n&&& BitVec.ofInt 64 63).toNat:Nat)=n%64;rw[key,IntKind.wrap_i64];omega
theorem iK(x x0 x1 s:Int)(b:Nat)(w:World)(h0:w.cell? ⟨b,0,none⟩=some (.int .u64 x0))(h1:w.cell? ⟨b,1,none⟩=some (.int .u64 x1))(h2:w.cell? ⟨b,2,none⟩=some (.int .i64 s)):
  Calls prog 193 #[.int .u64 x,.pointer (some ⟨b,0,none⟩)] w (fun e w'=>(∃u:Int,e= .returned (.int .u64 u))∧Keep w w'):=by
 have hb0:0≤bits .and .i64 s 63:=by rw[kJ];omega
 have hb1:bits .and .i64 s 63<64:=by rw[kJ];omega
 go_enter func193,ntmps193;go_wp2_with first
  |(go_at_call 205;refine(qE _ _ _).mono ?_;rintro e w' ⟨⟨y1,y2,rfl⟩,rfl⟩)
  |(go_at_call 180;refine(ir _ _).mono ?_;rintro e w' ⟨⟨xb,rfl⟩,rfl⟩)
 all_goals
  first
  |(go_ret;exact⟨⟨_,rfl⟩,Fr.refl _⟩)
  |(go_region_with (go_at_call 180;refine(ir _ _).mono ?_;rintro e w' ⟨⟨xb,rfl⟩,rfl⟩)
    go_wp2_with fail;go_ret;exact⟨⟨_,rfl⟩,(Fr.refl _).drew⟩)
def PT(w:World):Prop:=∀k<1392,∃x,w.cell? ⟨19,k,none⟩=some (.int .u64 x)
theorem PT.keep{w w':World}(h:PT w)(k:Keep w w'):PT w':=fun j hj=>by
 obtain⟨x,hx⟩:=h j hj;exact⟨x,Keep.cell k hx⟩
theorem lv(e lp:Int)(k b:Nat)(w:World)(hk:k<696)(hp:PT w)(he0: -3000≤e)(he1:e≤3000)(hl0: -3000≤lp)(hl1:lp≤3000)
  (z0 z1 z2:Value) (hb0:w.cell? ⟨b,0,none⟩=some z0) (hb1:w.cell? ⟨b,1,none⟩=some z1) (hb2:w.cell? ⟨b,2,none⟩=some z2) (hb:b≠19) (hf0:w.frozen? ⟨b,0,none⟩=false) (hf1:w.frozen? ⟨b,1,none⟩=false) (hf2:w.frozen? ⟨b,2,none⟩=false):
  Calls prog 192 #[.pointer (some ⟨b,0,none⟩),.int .i64 e,.int .i64 ((k:Int) -348),.int .i64 lp] w (fun en w'=>en= .returned (.tuple #[])∧∃x y:Int,w'=((w.setCell ⟨b,0,none⟩ (.int .u64 x)).setCell ⟨b,1,none⟩ (.int .u64 y)).setCell ⟨b,2,none⟩ (.int .i64 (-(e+lp+3)))):=by
 obtain⟨x,hx⟩:=hp (k*2) (by omega);obtain⟨y,hy⟩:=hp (k*2+1) (by omega);have hbn:¬19=b:=fun h=>hb h.symm
 clear hp;go_enter func192,ntmps192;go_wp2_with fail
 all_goals
  exact bodyPost_end (results_none results192 _ _ _) rfl ⟨rfl,_,_,rfl⟩
theorem iu(b:Bool)(w:World):Calls prog 194 #[.bool b] w (fun e w'=>(∃x:Int,e= .returned (.int .i64 x)∧0≤x∧x≤1)∧w=w'):=(oI b w).mono fun _ _ h=>⟨⟨_,h.1,by split<;>decide,by split<;>decide⟩,h.2⟩
theorem kQ(w:World)(o:Obj):(w.alloc o).heap[w.heap.size]? =some o:=by
 show(w.heap.push o)[w.heap.size]? =some o;exact Array.getElem?_push_size
theorem gi(e lp:Int)(k:Nat)(w:World)(hk:k<696)(hp:PT w)(he0: -3000≤e)(he1:e≤3000)(hl0: -3000≤lp)(hl1:lp≤3000):
  Calls prog 192 #[.pointer (some ⟨w.heap.size,0,none⟩),.int .i64 e,.int .i64 ((k:Int) -348),.int .i64 lp] (w.alloc (Obj.cells #[.int .u64 0,.int .u64 0,.int .i64 0] 278)) (fun en w'=>en= .returned (.tuple #[])∧∃x y s:Int,Keep w w'∧w'.cell? ⟨w.heap.size,0,none⟩=some (.int .u64 x)∧w'.cell? ⟨w.heap.size,1,none⟩=some (.int .u64 y)∧w'.cell? ⟨w.heap.size,2,none⟩=some (.int .i64 s)):=by
 have hA:=kQ w (Obj.cells #[.int .u64 0,.int .u64 0,.int .i64 0] 278);have hF:Keep w (w.alloc (Obj.cells #[.int .u64 0,.int .u64 0,.int .i64 0] 278)):=(Fr.refl w).alloc _;have h19:w.heap.size≠19:=by
  intro h;obtain⟨x,hx⟩:=hp 0 (by decide);have:w.heap[19]? =none:=by rw[←h];simp
  simp[World.cell?,this] at hx
 refine(lv e lp k w.heap.size _ hk (hp.keep hF) he0 he1 hl0 hl1 _ _ _ (ab hA 0) (ab hA 1) (ab hA 2) h19 (ae hA 0) (ae hA 1) (ae hA 2)).mono ?_;rintro en w' ⟨rfl,x,y,rfl⟩;have h1:=ag hA 0 (.int .u64 x);have h2:=ag h1 1 (.int .u64 y);have h3:=ag h2 2 (.int .i64 (-(e+lp+3)));refine⟨rfl,x,y,-(e+lp+3),((hF.setNew _ qr).setNew _ qr).setNew _ qr,?_,?_,?_⟩
 ·rw[ab h3 0];rfl
 ·rw[ab h3 1];rfl
 ·rw[ab h3 2];rfl
theorem qA(m:Int)(k:Nat)(w:World)(hk:k<659)(hk3:3≤k)(hp:PT w)(hm0:0≤m)(hm1:m<18446744073709551616):
  Calls prog 183 #[.int .u64 m,.int .i64 ((k:Int) -348),.int .u64 0] w (fun en w'=>(∃ (f:Nat) (ev:Value),en= .returned (.tuple #[.float .f64 f,ev])∧(ev= .nilIface∨∃T a,ev= .iface T a))∧Keep w w'):=by
 go_enter func183,ntmps183;go_wp2_with first
  |(go_at_call 190;refine(kH _ _ hm0 hm1).mono ?_;rintro e w' ⟨⟨b,rfl,hb0,hb1⟩,rfl⟩)
  |(go_at_call 191;refine(fI _ _ (by omega) (by omega)).mono ?_;rintro e w' ⟨⟨lp,rfl,hl0,hl1⟩,rfl⟩)
  |(go_at_call 192;refine(gi _ _ k _ (by omega) hp (by omega) (by omega) (by omega) (by omega)).mono ?_;rintro e w2 ⟨rfl,x0,x1,s,kk,c0,c1,c2⟩)
  |(go_at_call 193;refine(iK _ _ _ _ _ _ c0 c1 c2).mono ?_;rintro e w3 ⟨⟨u,rfl⟩,k3⟩)
  |(go_at_call 195;refine(j6 _ _).mono ?_;rintro e w' ⟨⟨um,rfl⟩,rfl⟩)
  |(go_at_call 194;refine(iu _ _).mono ?_;rintro e w' ⟨⟨sh,rfl,hs0,hs1⟩,rfl⟩)
  |(go_at_call 197;refine(km _ _).mono ?_;rintro e w' ⟨⟨ur,rfl⟩,rfl⟩)
  |(go_at_call 200;refine(n_ _ _ _ (by omega) (by omega)).mono ?_;rintro e w' ⟨⟨f,ev,rfl,hev⟩,rfl⟩)
 all_goals
  first
  |exact qh (results_tmp2 results183 _ _ _) rfl ⟨⟨_,_,rfl,hev⟩,kk.trans k3⟩
  |exact qh (results_tmp2 results183 _ _ _) rfl ⟨⟨_,_,rfl,.inl rfl⟩,kk⟩
end Go.Proofs.YtnclklfhjbkjhaaGreatDoor
