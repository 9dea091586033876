/- Part of the proof: L0 L1 L2 L3 L4 L5. -/
import Derived.Test.YtnclklfhjbkjhaaGreatDoorKc
set_option maxRecDepth 1000000
set_option maxHeartbeats 40000000
set_option linter.unusedSimpArgs false
namespace Go.Proofs.YtnclklfhjbkjhaaGreatDoor
open Tryz
open Go.RowKit Go.Lib
def bx(n:Nat):Code→Option Code
 | .block m c=>if m=n then some (.block m c) else bx n c
 | .seq a b=>match bx n a with
  |some c=>some c
  |none=>bx n b
 | .loop c=>bx n c
 | .scope c=>bx n c
 | .cond _ a b=>match bx n a with
  |some c=>some c
  |none=>bx n b
 |_=>none
noncomputable def sw68:Code:=(Tryz.f68.body.bind (bx 2)).getD .skip
def bC(u:Nat→Value):Act:=⟨#[
 u 0,u 1,u 2,u 3,u 4,u 5,u 6,u 7,u 8,u 9,u 10,u 11,u 12,u 13,u 14,u 15,
 u 16,u 17,u 18,u 19,u 20,u 21,u 22,u 23,u 24,u 25,u 26,u 27,u 28,u 29,u 30,u 31,
 u 32,u 33,u 34,u 35,u 36,u 37,u 38,u 39,u 40,u 41,u 42,u 43,u 44,u 45,u 46,u 47,
 u 48,u 49,u 50,u 51,u 52,u 53,u 54,u 55,u 56,u 57,u 58,u 59,u 60,u 61,u 62,u 63,
 u 64,u 65,u 66,u 67,u 68,u 69,u 70,u 71,u 72,u 73,u 74,u 75,u 76,u 77,u 78,u 79,
 u 80,u 81,u 82,u 83,u 84,u 85,u 86,u 87,u 88,u 89,u 90,u 91,u 92,u 93,u 94,u 95,
 u 96,u 97,u 98,u 99,u 100,u 101,u 102,u 103,u 104,u 105,u 106,u 107,u 108,u 109,u 110,u 111,
 u 112,u 113,u 114,u 115,u 116,u 117,u 118,u 119,u 120,u 121,u 122,u 123,u 124,u 125,u 126,u 127,
 u 128,u 129,u 130,u 131,u 132,u 133,u 134,u 135,u 136,u 137,u 138,u 139,u 140,u 141,u 142,u 143,
 u 144,u 145,u 146,u 147,u 148,u 149,u 150,u 151,u 152,u 153,u 154,u 155,u 156,u 157,u 158,u 159,
 u 160,u 161,u 162,u 163,u 164,u 165,u 166,u 167,u 168,u 169,u 170,u 171,u 172,u 173,u 174,u 175,
 u 176,u 177,u 178,u 179,u 180,u 181,u 182,u 183,u 184,u 185,u 186,u 187,u 188,u 189,u 190,u 191,
 u 192,u 193,u 194,u 195,u 196,u 197,u 198,u 199,u 200,u 201,u 202,u 203,u 204,u 205,u 206,u 207,
 u 208,u 209,u 210,u 211,u 212,u 213,u 214,u 215,u 216,u 217,u 218,u 219,u 220,u 221,u 222,u 223,
 u 224,u 225,u 226,u 227,u 228,u 229,u 230,u 231,u 232,u 233,u 234,u 235,u 236,u 237,u 238,u 239,
 u 240,u 241,u 242,u 243,u 244,u 245,u 246,u 247,u 248,u 249,u 250,u 251,u 252,u 253,u 254,u 255,
 u 256,u 257,u 258,u 259,u 260,u 261,u 262,u 263,u 264,u 265,u 266,u 267,u 268,u 269,u 270,u 271,
 u 272,u 273,u 274,u 275,u 276,u 277,u 278,u 279,u 280,u 281,u 282,u 283,u 284,u 285,u 286,u 287,
 u 288,u 289,u 290,u 291,u 292,u 293,u 294,u 295,u 296,u 297,u 298,u 299,u 300,u 301,u 302,u 303,
 u 304,u 305,u 306,u 307,u 308,u 309,u 310,u 311,u 312,u 313,u 314,u 315,u 316,u 317,u 318,u 319,
 u 320,u 321,u 322,u 323,u 324,u 325,u 326,u 327,u 328,u 329,u 330,u 331,u 332,u 333,u 334,u 335,
 u 336,u 337,u 338,u 339,u 340,u 341,u 342,u 343,u 344,u 345,u 346,u 347,u 348,u 349,u 350,u 351,
 u 352,u 353,u 354,u 355,u 356,u 357,u 358,u 359,u 360,u 361,u 362,u 363,u 364,u 365,u 366,u 367,
 u 368,u 369,u 370,u 371,u 372,u 373,u 374,u 375,u 376,u 377,u 378,u 379,u 380,u 381,u 382,u 383,
 u 384,u 385,u 386,u 387,u 388,u 389,u 390,u 391,u 392],[]⟩
theorem uS(u:Nat→Value):bC u=⟨((List.range 393).map u).toArray,[]⟩:=by kernel_rfl
def Fr68(P:(Nat→Value)→Prop)(a:Act):Prop:=∃u,P u∧a=bC u
theorem jK{n:Nat}{a:Act}(hs:a.tmps.size=n)(hd:a.defers=[]):a=⟨((List.range n).map fun i=>a.tmps.getD i Go.undef).toArray,[]⟩:=by
 obtain⟨t,d⟩:=a;subst hd;subst hs;congr 1;apply Array.ext
 ·simp
 ·intro i h1 h2;simp[Array.getD,h1]
theorem Fr68.mk{P:(Nat→Value)→Prop}{a:Act}(hs:a.tmps.size=393)(hd:a.defers=[])(h:P fun i=>a.tmps.getD i Go.undef):Fr68 P a:=⟨_,h,by rw[uS];exact jK hs hd⟩
def dh(lx b:Nat)(q:Value)(u:Nat→Value):Prop:=u 0= .pointer (some ⟨lx,0,none⟩)∧u 1=q∧u 5= .pointer (some ⟨b,0,none⟩)
structure EscP(C:RC)(lx rr T B:Nat)(A:Nat→Prop)(p pv:Ps)(l:List UInt8)(x:Es)(w wx:World):Prop where
 st:∃ok,BufSt C lx rr A ok T 0 x.rest p pv B B (l++x.out) wx
 fr:Fr (LxF C lx A) w wx
def cH(D:Int→Prop):Prop:=
 ∀ (C:RC) (lx rr T B:Nat) (A:Nat→Prop) (d:Int) (R:List Int) (p pv:Ps) (l:List UInt8) (q:Value) (w:World) (a:Act) (J K:Act→World→Prop) (Q:Exit→Act→World→Prop),
  D d→Hid (BufSt C lx rr A true T 1 R p pv B B l w)→Hid (l.length≤900000000)→Hid (Cp (d::R))→Hid (SG w)→Hid (¬A 11∧¬A 12)→Fr68 (fun u=>dh lx B q u∧u 6= .int .i32 d∧u 66= .int .i32 d) a→
  (∀a' wx,Fr68 (dh lx B q) a'∧EscP C lx rr T B A p pv l (aU d R) w wx→J a' wx)→(∀a' wx,Met J a' wx→K a' wx)→
  sw68.wp prog (Exit.then K Q) a w
def yF(n:Nat):Code→Bool
 | .region m _ _=>m==n
 |_=>false
def de(n:Nat):Code→Option Code
 | .seq a b=>if yF n a then some (.seq a b) else match de n a with
  |some c=>some c
  |none=>de n b
 | .block _ c=>de n c
 | .loop c=>de n c
 | .scope c=>de n c
 | .cond _ a b=>match de n a with
  |some c=>some c
  |none=>de n b
 |_=>none
noncomputable def qT(n:Nat):Code:=(Tryz.f68.body.bind (de n)).getD .skip
theorem BufSt.keep{C:RC}{lx rr T d B b:Nat}{A:Nat→Prop}{ok:Bool}{R:List Int}{p pv:Ps}{l:List UInt8}{w w':World}(h:BufSt C lx rr A ok T d R p pv B b l w)(k:Keep w w'):BufSt C lx rr A ok T d R p pv B b l w':=
 (h.turn (k.mono fun _ _ e=>e.elim) (h.plus.keep k)).1
theorem BufSt.any{C:RC}{lx rr T d B b:Nat}{A:Nat→Prop}{ok:Bool}{R:List Int}{p pv:Ps}{l:List UInt8}{w:World}(h:BufSt C lx rr A ok T d R p pv B b l w):BufSt C lx rr A false T d R p pv B b l w:=⟨h.st.any,h.buf,h.low,h.lowA⟩
theorem SG.fr{C:RC}{lx:Nat}{A:Nat→Prop}{w w':World}(h:SG w)(f:Fr (LxF C lx A) w w')(hA:¬A 11∧¬A 12)(hl:A lx):SG w':=by
 have k:∀b v,(b=11∨b=12)→w.cell? ⟨b,0,none⟩=some v→w'.cell? ⟨b,0,none⟩=some v:=by
  intro b v hb h;have hn:¬LxF C lx A b:=by
   have hlo:=C.lo;rintro(⟨e,-⟩|e)
   ·omega
   ·subst e;rcases hb with e|e
    ·exact hA.1 (e▸hl)
    ·exact hA.2 (e▸hl)
  unfold World.cell? at h ⊢;simp only at h ⊢;cases e:w.heap[b]? with
  |none=>rw[e] at h;cases h
  |some o=>
   rw[e] at h;rw[f.blk hn e];exact h
 obtain⟨⟨T,a,h1⟩,⟨T',a',h2⟩⟩:=h;exact⟨⟨T,a,k _ _ (.inl rfl) h1⟩,⟨T',a',k _ _ (.inr rfl) h2⟩⟩
def qZ(c:Code)(lx B:Nat)(q:Value)(P:(Nat→Value)→Prop)(w:World)(G:World→Prop):Prop:=
 ∀ (a:Act) (J K:Act→World→Prop) (Q:Exit→Act→World→Prop),Fr68 (fun u=>dh lx B q u∧P u) a→
  (∀a' wx,Fr68 (dh lx B q) a'∧G wx→J a' wx)→(∀a' wx,Met J a' wx→K a' wx)→
  c.wp prog (Exit.inBlock 2 (Exit.then K Q)) a w
end Go.Proofs.YtnclklfhjbkjhaaGreatDoor
namespace Go.Proofs.YtnclklfhjbkjhaaGreatDoor
open Go.RowKit Go.Lib
theorem xG:cH (· =97):=by
 intro C lx rr T B A d R p pv l q w a J K Q hd H4 HL HCP HSG HLW HF hJ hK;obtain⟨u,⟨hs,h6,h66⟩,rfl⟩:=HF;have HS:=Z hs;have hls:=HL.out;have hls9:l.length≤1000000000:=by omega
 obtain rfl:d=97:=hd;unfold bC;rw[hs.1,hs.2.2,h6,h66];clear hs h6 h66 hls
 conv=>arg 2;whnf
 go_wp2_with (go_at_call 98;refine(aX 7 H4.slack hls9).mono ?_;rintro e w5 ⟨rfl,h5,f5⟩;have H5:=Z h5;have HF5:=Z f5;clear h5 f5);refine Met.intro (hJ _ _ ⟨Fr68.mk rfl rfl ⟨rfl,HS.2.1,rfl⟩,⟨⟨_,by rw[yK];exact H5.out⟩,HF5.out⟩⟩)
theorem xF:cH (· =98):=by
 intro C lx rr T B A d R p pv l q w a J K Q hd H4 HL HCP HSG HLW HF hJ hK;obtain⟨u,⟨hs,h6,h66⟩,rfl⟩:=HF;have HS:=Z hs;have hls:=HL.out;have hls9:l.length≤1000000000:=by omega
 obtain rfl:d=98:=hd;unfold bC;rw[hs.1,hs.2.2,h6,h66];clear hs h6 h66 hls
 conv=>arg 2;whnf
 go_wp2_with (go_at_call 98;refine(aX 8 H4.slack hls9).mono ?_;rintro e w5 ⟨rfl,h5,f5⟩;have H5:=Z h5;have HF5:=Z f5;clear h5 f5);refine Met.intro (hJ _ _ ⟨Fr68.mk rfl rfl ⟨rfl,HS.2.1,rfl⟩,⟨⟨_,by rw[yJ];exact H5.out⟩,HF5.out⟩⟩)
theorem vy:cH (· =102):=by
 intro C lx rr T B A d R p pv l q w a J K Q hd H4 HL HCP HSG HLW HF hJ hK;obtain⟨u,⟨hs,h6,h66⟩,rfl⟩:=HF;have HS:=Z hs;have hls:=HL.out;have hls9:l.length≤1000000000:=by omega
 obtain rfl:d=102:=hd;unfold bC;rw[hs.1,hs.2.2,h6,h66];clear hs h6 h66 hls
 conv=>arg 2;whnf
 go_wp2_with (go_at_call 98;refine(aX 12 H4.slack hls9).mono ?_;rintro e w5 ⟨rfl,h5,f5⟩;have H5:=Z h5;have HF5:=Z f5;clear h5 f5);refine Met.intro (hJ _ _ ⟨Fr68.mk rfl rfl ⟨rfl,HS.2.1,rfl⟩,⟨⟨_,by rw[xq];exact H5.out⟩,HF5.out⟩⟩)
theorem vw:cH (· =110):=by
 intro C lx rr T B A d R p pv l q w a J K Q hd H4 HL HCP HSG HLW HF hJ hK;obtain⟨u,⟨hs,h6,h66⟩,rfl⟩:=HF;have HS:=Z hs;have hls:=HL.out;have hls9:l.length≤1000000000:=by omega
 obtain rfl:d=110:=hd;unfold bC;rw[hs.1,hs.2.2,h6,h66];clear hs h6 h66 hls
 conv=>arg 2;whnf
 go_wp2_with (go_at_call 98;refine(aX 10 H4.slack hls9).mono ?_;rintro e w5 ⟨rfl,h5,f5⟩;have H5:=Z h5;have HF5:=Z f5;clear h5 f5);refine Met.intro (hJ _ _ ⟨Fr68.mk rfl rfl ⟨rfl,HS.2.1,rfl⟩,⟨⟨_,by rw[xp];exact H5.out⟩,HF5.out⟩⟩)
theorem vv:cH (· =114):=by
 intro C lx rr T B A d R p pv l q w a J K Q hd H4 HL HCP HSG HLW HF hJ hK;obtain⟨u,⟨hs,h6,h66⟩,rfl⟩:=HF;have HS:=Z hs;have hls:=HL.out;have hls9:l.length≤1000000000:=by omega
 obtain rfl:d=114:=hd;unfold bC;rw[hs.1,hs.2.2,h6,h66];clear hs h6 h66 hls
 conv=>arg 2;whnf
 go_wp2_with (go_at_call 98;refine(aX 13 H4.slack hls9).mono ?_;rintro e w5 ⟨rfl,h5,f5⟩;have H5:=Z h5;have HF5:=Z f5;clear h5 f5);refine Met.intro (hJ _ _ ⟨Fr68.mk rfl rfl ⟨rfl,HS.2.1,rfl⟩,⟨⟨_,by rw[xo];exact H5.out⟩,HF5.out⟩⟩)
theorem vt:cH (· =116):=by
 intro C lx rr T B A d R p pv l q w a J K Q hd H4 HL HCP HSG HLW HF hJ hK;obtain⟨u,⟨hs,h6,h66⟩,rfl⟩:=HF;have HS:=Z hs;have hls:=HL.out;have hls9:l.length≤1000000000:=by omega
 obtain rfl:d=116:=hd;unfold bC;rw[hs.1,hs.2.2,h6,h66];clear hs h6 h66 hls
 conv=>arg 2;whnf
 go_wp2_with (go_at_call 98;refine(aX 9 H4.slack hls9).mono ?_;rintro e w5 ⟨rfl,h5,f5⟩;have H5:=Z h5;have HF5:=Z f5;clear h5 f5);refine Met.intro (hJ _ _ ⟨Fr68.mk rfl rfl ⟨rfl,HS.2.1,rfl⟩,⟨⟨_,by rw[xn];exact H5.out⟩,HF5.out⟩⟩)
theorem vr:cH (· =118):=by
 intro C lx rr T B A d R p pv l q w a J K Q hd H4 HL HCP HSG HLW HF hJ hK;obtain⟨u,⟨hs,h6,h66⟩,rfl⟩:=HF;have HS:=Z hs;have hls:=HL.out;have hls9:l.length≤1000000000:=by omega
 obtain rfl:d=118:=hd;unfold bC;rw[hs.1,hs.2.2,h6,h66];clear hs h6 h66 hls
 conv=>arg 2;whnf
 go_wp2_with (go_at_call 98;refine(aX 11 H4.slack hls9).mono ?_;rintro e w5 ⟨rfl,h5,f5⟩;have H5:=Z h5;have HF5:=Z f5;clear h5 f5);refine Met.intro (hJ _ _ ⟨Fr68.mk rfl rfl ⟨rfl,HS.2.1,rfl⟩,⟨⟨_,by rw[xj];exact H5.out⟩,HF5.out⟩⟩)
theorem xH:cH (· =92):=by
 intro C lx rr T B A d R p pv l q w a J K Q hd H4 HL HCP HSG HLW HF hJ hK;obtain⟨u,⟨hs,h6,h66⟩,rfl⟩:=HF;have HS:=Z hs;have hls:=HL.out;have hls9:l.length≤1000000000:=by omega
 obtain rfl:d=92:=hd;unfold bC;rw[hs.1,hs.2.2,h6,h66];clear hs h6 h66 hls
 conv=>arg 2;whnf
 go_wp2_with (go_at_call 98;refine(aX 92 H4.slack hls9).mono ?_;rintro e w5 ⟨rfl,h5,f5⟩;have H5:=Z h5;have HF5:=Z f5;clear h5 f5);refine Met.intro (hJ _ _ ⟨Fr68.mk rfl rfl ⟨rfl,HS.2.1,rfl⟩,⟨⟨_,by rw[yL];exact H5.out⟩,HF5.out⟩⟩)
theorem xL:cH (· =39):=by
 intro C lx rr T B A d R p pv l q w a J K Q hd H4 HL HCP HSG HLW HF hJ hK;obtain⟨u,⟨hs,h6,h66⟩,rfl⟩:=HF;have HS:=Z hs;have hls:=HL.out;have hls9:l.length≤1000000000:=by omega
 obtain rfl:d=39:=hd;unfold bC;rw[hs.1,hs.2.2,h6,h66];clear hs h6 h66 hls
 conv=>arg 2;whnf
 go_wp2_with (go_at_call 98;refine(aX 39 H4.slack hls9).mono ?_;rintro e w5 ⟨rfl,h5,f5⟩;have H5:=Z h5;have HF5:=Z f5;clear h5 f5);refine Met.intro (hJ _ _ ⟨Fr68.mk rfl rfl ⟨rfl,HS.2.1,rfl⟩,⟨⟨_,by rw[yP];exact H5.out⟩,HF5.out⟩⟩)
theorem xM:cH (· =34):=by
 intro C lx rr T B A d R p pv l q w a J K Q hd H4 HL HCP HSG HLW HF hJ hK;obtain⟨u,⟨hs,h6,h66⟩,rfl⟩:=HF;have HS:=Z hs;have hls:=HL.out;have hls9:l.length≤1000000000:=by omega
 obtain rfl:d=34:=hd;unfold bC;rw[hs.1,hs.2.2,h6,h66];clear hs h6 h66 hls
 conv=>arg 2;whnf
 go_wp2_with (go_at_call 98;refine(aX 34 H4.slack hls9).mono ?_;rintro e w5 ⟨rfl,h5,f5⟩;have H5:=Z h5;have HF5:=Z f5;clear h5 f5);refine Met.intro (hJ _ _ ⟨Fr68.mk rfl rfl ⟨rfl,HS.2.1,rfl⟩,⟨⟨_,by rw[yQ];exact H5.out⟩,HF5.out⟩⟩)
theorem xK:cH (· =63):=by
 intro C lx rr T B A d R p pv l q w a J K Q hd H4 HL HCP HSG HLW HF hJ hK;obtain⟨u,⟨hs,h6,h66⟩,rfl⟩:=HF;have HS:=Z hs;have hls:=HL.out;have hls9:l.length≤1000000000:=by omega
 obtain rfl:d=63:=hd;unfold bC;rw[hs.1,hs.2.2,h6,h66];clear hs h6 h66 hls
 conv=>arg 2;whnf
 go_wp2_with (go_at_call 98;refine(aX 63 H4.slack hls9).mono ?_;rintro e w5 ⟨rfl,h5,f5⟩;have H5:=Z h5;have HF5:=Z f5;clear h5 f5);refine Met.intro (hJ _ _ ⟨Fr68.mk rfl rfl ⟨rfl,HS.2.1,rfl⟩,⟨⟨_,by rw[yO];exact H5.out⟩,HF5.out⟩⟩)
theorem yZ:cH tP:=by
 intro C lx rr T B A d R p pv l q w a J K Q hd H4 HL HCP HSG HLW HF hJ hK;obtain⟨u,⟨hs,h6,h66⟩,rfl⟩:=HF;have HS:=Z hs;have hls:=HL.out;have hls9:l.length≤1000000000:=by omega
 have HN:=Z hd;have hd0:=HCP.head;obtain⟨n1,n2,n3,n4,n5,n6,n7,n8,n9,n10,n11,n12,n13,n14,n15,n16⟩:=hd;have hO:¬ (48≤d∧d≤55):=fun h=>by
  have:dE d=true:=by simp only[dE,Bool.and_eq_true,decide_eq_true_eq];exact h
  rw[n3] at this;cases this
 have q120:(d==120)=false:=bf (by omega);have q88:(d==88)=false:=bf (by omega);have q48:(d==48)=false:=bf (by omega);have q49:(d==49)=false:=bf (by omega);have q50:(d==50)=false:=bf (by omega);have q51:(d==51)=false:=bf (by omega);have q52:(d==52)=false:=bf (by omega);have q53:(d==53)=false:=bf (by omega);have q54:(d==54)=false:=bf (by omega);have q55:(d==55)=false:=bf (by omega);have q117:(d==117)=false:=bf (by omega);have q85:(d==85)=false:=bf (by omega);have q97:(d==97)=false:=bf (by omega);have q98:(d==98)=false:=bf (by omega);have q102:(d==102)=false:=bf (by omega);have q110:(d==110)=false:=bf (by omega);have q114:(d==114)=false:=bf (by omega);have q116:(d==116)=false:=bf (by omega);have q118:(d==118)=false:=bf (by omega);have q92:(d==92)=false:=bf (by omega);have q39:(d==39)=false:=bf (by omega);have q34:(d==34)=false:=bf (by omega);have q63:(d==63)=false:=bf (by omega);clear n1 n2 n3 n4 n5 n6 n7 n8 n9 n10 n11 n12 n13 n14 n15 n16 hO;unfold bC;rw[hs.1,hs.2.2,h6,h66];clear hs h6 h66
 conv=>arg 2;whnf
 go_wp2_with first
  |(go_at_call 98;refine(aX 92 H4.slack hls9).mono ?_;rintro e w5 ⟨rfl,h5,f5⟩;have H5:=Z h5;have HF5:=Z f5;clear h5 f5)
  |(go_at_call 99;refine(bJ d (by omega) (by omega) H5.out (by rw[qk];simp;omega)).mono ?_;rintro e w6 ⟨⟨n6,rfl⟩,h6,f6⟩;have H6:=Z h6;have HF6:=Z (HF5.trans f6);clear h6 f6)
 refine Met.intro (hJ _ _ ⟨Fr68.mk rfl rfl ⟨rfl,HS.2.1,rfl⟩,⟨⟨_,by rw[zr HN.out,←qs];exact H6.out⟩,HF6.out⟩⟩)
theorem sP(C:RC)(lx rr T B:Nat)(A:Nat→Prop)(ok:Bool)(d:Int)(R:List Int)(p pv:Ps)(l:List UInt8)(q:Value)(t:ByteArray)(w:World)
  (H:Hid (BufSt C lx rr A ok T 0 R p pv B B l w)) (HL:Hid (l.length≤900000000)) (hd:0≤d∧d≤1114111) (ht:t.size≤100) (HSG:Hid (SG w)):
  qZ (qT 29) lx B q (fun u=>u 6= .int .i32 d∧u 11= .string t) w (EscP C lx rr T B A p pv l ⟨(match cG 16 t.toList with|none=>bsl++enc d++t.toList|some i=>[dN i]),R⟩ w):=by
 intro a J K Q HF hJ hK;obtain⟨u,⟨hs,h6,h11⟩,rfl⟩:=HF;have HS:=Z hs;have hls:=HL.out;have hls9:l.length≤1000000000:=by omega
 unfold bC;rw[hs.1,hs.2.2,h6,h11];clear hs h6 h11
 conv=>arg 2;whnf
 go_wp2_with first
  |(go_at_call 100;refine(dd t 16 (.inr rfl) _ (by omega) HSG).mono ?_;rintro e w2 ⟨v,ev,rfl,k2,(⟨hp,rfl⟩|⟨hp,T',a',rfl⟩)⟩<;>refine Hid.out ?_)
 ·refine Z ?_;have H2:=Z (H.keep k2);have HP:=Z hp;have HF2:Hid (Fr (LxF C lx A) w w2):=Z ((Fr.refl w).keep k2);have hb:=iq v;clear hp k2;go_wp2_with (go_at_call 98;refine(aX (dN v) H2 hls9).mono ?_;rintro e w5 ⟨rfl,h5,f5⟩;have H5:=Z h5;have HF5:=Z (HF2.trans f5);clear h5 f5);refine Met.intro (hJ _ _ ⟨Fr68.mk rfl rfl ⟨rfl,HS.2.1,rfl⟩,⟨⟨_,by rw[HP.out];exact H5.out⟩,HF5.out⟩⟩)
 ·refine Z ?_;have H2:=Z (H.keep k2);have HP:=Z hp;have HF2:Hid (Fr (LxF C lx A) w w2):=Z ((Fr.refl w).keep k2);clear hp k2;go_wp2_with first
   |(go_at_call 98;refine(aX 92 H2 hls9).mono ?_;rintro e w5 ⟨rfl,h5,f5⟩;have H5:=Z h5;have HF5:=Z (HF2.trans f5);clear h5 f5)
   |(go_at_call 99;refine(bJ d (by omega) (by omega) H5.out (by rw[qk];simp;omega)).mono ?_;rintro e w6 ⟨⟨n6,rfl⟩,h6,f6⟩;have H6:=Z h6;have HF6:=Z (HF5.trans f6);clear h6 f6)
   |(go_at_call 101;refine(ez t H6.out (by have:=aI d;rw[qk,qk];simp;omega) (by omega)).mono ?_;rintro e w7 ⟨⟨n7,rfl⟩,h7,f7⟩;have H7:=Z h7;have HF7:=Z (HF6.trans f7);clear h7 f7)
  refine Met.intro (hJ _ _ ⟨Fr68.mk rfl rfl ⟨rfl,HS.2.1,rfl⟩,⟨⟨_,by rw[HP.out];simpa only[qs,bsl] using H7.out⟩,HF7.out⟩⟩)
end Go.Proofs.YtnclklfhjbkjhaaGreatDoor
namespace Go.Proofs.YtnclklfhjbkjhaaGreatDoor
open Tryz
open Go.RowKit Go.Lib
theorem ot{c:Int}(h:(48≤c∧c≤57)∨(65≤c∧c≤70)∨(97≤c∧c≤102)):eU c=true:=by
 simp only[eU,aV,Bool.or_eq_true,Bool.and_eq_true,decide_eq_true_eq];omega
theorem pD{c:Int}(h:c<48∨(57<c∧c<65)∨(70<c∧c<97)∨102<c):eU c=false:=by
 cases e:eU c
 ·rfl
 ·simp only[eU,aV,Bool.or_eq_true,Bool.and_eq_true,decide_eq_true_eq] at e;omega
theorem dL(w:World)(c d:Int)(hc:0≤c)(hd:0≤d):(convert 123 9 (.slice (some ⟨w.heap.size,0,none⟩) 2 2)).run prog (w.alloc (.cells #[.int .i32 c,.int .i32 d] 21))= .ok (.string (runesBytes [c,d])) (w.alloc (.cells #[.int .i32 c,.int .i32 d] 21))∧(runesBytes [c,d]).toList=enc c++enc d:=by
 have h:=jH (w:=w.alloc (.cells #[.int .i32 c,.int .i32 d] 21)) (g:=w.heap.size) (cap:=2) (xs:=[c,d]) (fun j hj=>by
  simp only[List.length_cons,List.length_nil] at hj;rw[ab (ql w _) j]
  match j,hj with
  |0,_=>rfl
  |1,_=>rfl) (by intro x hx;simp at hx;omega)
 refine⟨h.1,h.2.trans ?_⟩;simp[aO]
theorem tq(w:World)(c d e:Int)(hc:0≤c)(hd:0≤d)(he:0≤e):(convert 123 9 (.slice (some ⟨w.heap.size,0,none⟩) 3 3)).run prog (w.alloc (.cells #[.int .i32 c,.int .i32 d,.int .i32 e] 21))= .ok (.string (runesBytes [c,d,e])) (w.alloc (.cells #[.int .i32 c,.int .i32 d,.int .i32 e] 21))∧(runesBytes [c,d,e]).toList=enc c++enc d++enc e:=by
 have h:=jH (w:=w.alloc (.cells #[.int .i32 c,.int .i32 d,.int .i32 e] 21)) (g:=w.heap.size) (cap:=3) (xs:=[c,d,e]) (fun j hj=>by
  simp only[List.length_cons,List.length_nil] at hj;rw[ab (ql w _) j]
  match j,hj with
  |0,_=>rfl
  |1,_=>rfl
  |2,_=>rfl) (by intro x hx;simp at hx;omega)
 refine⟨h.1,h.2.trans ?_⟩;simp[aO]
theorem cM(t:ByteArray):t.size=t.toList.length:=by rw[qi];rfl
theorem sQ(C:RC)(lx rr T B:Nat)(A:Nat→Prop)(d:Int)(R:List Int)(p pv:Ps)(l:List UInt8)(q:Value)(w:World)
  (H:Hid (BufSt C lx rr A true T 1 R p pv B B l w)) (HL:Hid (l.length≤900000000)) (HCP:Hid (Cp (d::R))) (HSG:Hid (SG w)) (HLW:Hid (¬A 11∧¬A 12)):
  qZ (qT 15) lx B q (fun u=>u 6= .int .i32 d) w (EscP C lx rr T B A p pv l (dt d R) w):=by
 intro a J K Q HF hJ hK;obtain⟨u,⟨hs,h6⟩,rfl⟩:=HF;have HS:=Z hs;have hls:=HL.out;have hls9:l.length≤1000000000:=by omega
 have hd0:=HCP.head;have c4:=H.st.cell;unfold bC;rw[hs.1,hs.2.2,h6];clear hs h6
 conv=>arg 2;whnf
 go_wp2_with first
  |(go_at_call 62;refine(dG H.slack).mono ?_;rintro e w2 ⟨f2,(⟨hR,h2,b,rfl⟩|⟨c1,R2,hR,h2,rfl⟩)⟩<;>refine Hid.out ?_)
 ·refine Z ?_;have HR:=Z hR;have H2:=Z h2;have HF2:=Z f2;clear hR h2 f2;go_wp2_with first
   |(go_at_call 98;refine(aX 92 H2 hls9).mono ?_;rintro e w5 ⟨rfl,h5,f5⟩;have H5:=Z h5;have HF5:=Z (HF2.trans f5);clear h5 f5)
   |(go_at_call 99;refine(bJ d (by omega) (by omega) H5.out (by rw[qk];simp;omega)).mono ?_;rintro e w6 ⟨⟨n6,rfl⟩,h6,f6⟩;have H6:=Z h6;have HF6:=Z (HF5.trans f6);clear h6 f6)
  refine Met.intro (hJ _ _ ⟨Fr68.mk rfl rfl ⟨rfl,HS.2.1,rfl⟩,⟨⟨_,by rw[HR.out];simpa only[dt,qs,bsl] using H6.out⟩,HF6.out⟩⟩)
 ·refine Z ?_;have HR:=Z hR;have H2:=Z h2;have HF2:=Z f2;have hcp2:=HCP.tail;rw[hR] at hcp2;have HCP2:=Z hcp2;have hd1:=hcp2.head;have c5:=h2.st.cell;clear hR h2 f2 hcp2;go_wp2_with first
   |(go_at_call 62;refine(dG H2.slack).mono ?_;rintro e w3 ⟨f3,(⟨hR,h3,b,rfl⟩|⟨c2,R3,hR,h3,rfl⟩)⟩<;>refine Hid.out ?_)
  ·refine Z ?_;have HR3:=Z hR;have H3:=Z h3;have HF3:=Z (HF2.trans f3);clear hR h3 f3;go_wp2_with first
    |(go_at_call 98;refine(aX 92 H3 hls9).mono ?_;rintro e w5 ⟨rfl,h5,f5⟩;have H5:=Z h5;have HF5:=Z (HF3.trans f5);clear h5 f5)
    |(go_at_call 99;(with_reducible refine(bJ d (by omega) (by omega) H5.out (by rw[qk];simp;omega)).mono ?_);rintro e w6 ⟨⟨n6,rfl⟩,h6,f6⟩;have H6:=Z h6;have HF6:=Z (HF5.trans f6);clear h6 f6)
    |(go_at_call 99;(with_reducible refine(bJ c1 (by omega) (by omega) H6.out (by have:=aI d;rw[qk,qk];simp;omega)).mono ?_);rintro e w7 ⟨⟨n7,rfl⟩,h7,f7⟩;have H7:=Z h7;have HF7:=Z (HF6.trans f7);clear h7 f7)
   refine Met.intro (hJ _ _ ⟨Fr68.mk rfl rfl ⟨rfl,HS.2.1,rfl⟩,⟨⟨_,by rw[HR.out,HR3.out];simpa only[dt,qs,bsl] using H7.out⟩,HF7.out⟩⟩)
  ·refine Z ?_;have HR3:=Z hR;have H3:=Z h3;have HF3:=Z (HF2.trans f3);have hcp3:=HCP2.tail;rw[hR] at hcp3;have hd2:=hcp3.head;have c6:=h3.st.cell;clear hR h3 f3 hcp3;go_upto_region 24 with fail;go_step;go_step;go_step;go_step;go_step;go_step;go_step;go_step;refine wp_cut (fun a' w'=>Fr68 (fun u=>dh lx B q u∧u 6= .int .i32 d∧∃t,u 11= .string t∧t.toList=(if eU c2=true then enc c1++enc c2 else enc c1)) a'∧(∃ok,BufSt C lx rr A ok T 0 (if eU c2=true then R3 else c2::R3) p pv B B l w')∧Fr (LxF C lx A) w w') ?rest ?first
   case rest=>
    rintro a' wc ⟨⟨u,⟨hs,h6,t,h11,ht⟩,rfl⟩,⟨ok,h⟩,f⟩;have hsg:SG wc:=HSG.fr f HLW h.st.la;have hsz:t.size≤100:=by
     have h1:=aI c1;have h2:=aI c2;rw[cM,ht];split
     ·rw[qk];omega
     ·omega
    go_step;refine sP C lx rr T B A ok d _ p pv l q t wc (Z h) HL hd0 hsz (Z hsg) _ J K Q ⟨u,⟨hs,h6,h11⟩,rfl⟩ ?_ hK;rintro a2 w2 ⟨hf,he⟩;rw[ht] at he;refine hJ _ _ ⟨hf,⟨?_,f.trans he.fr⟩⟩;rw[HR.out,HR3.out];exact he.st
   case first=>
    intro J2 K2 hJ2 hK2;clear hJ hK;have hk:(c2<48)∨(48≤c2∧c2≤57)∨(57<c2∧c2<65)∨(65≤c2∧c2≤70)∨(70<c2∧c2<97)∨(97≤c2∧c2≤102)∨102<c2:=by omega
    rcases hk with k|⟨k0,k1⟩|⟨k0,k1⟩|⟨k0,k1⟩|⟨k0,k1⟩|⟨k0,k1⟩|k
    ·have hH:eU c2=false:=pD (by omega);have HH:=Z hH;clear hH;go_wp2_with (go_at_call 66;refine(cw c2 H3).mono ?_;rintro e w4 ⟨rfl,h4,f4⟩;have H4:=Z h4;have HF4:=Z (HF3.trans f4);clear h4 f4);refine Met.intro (hJ2 _ _ ⟨Fr68.mk rfl rfl ⟨⟨rfl,HS.2.1,rfl⟩,rfl,⟨_,rfl,by rw[HH.out];exact cA hd1.1⟩⟩,⟨_,by rw[HH.out];exact H4.out⟩,HF4.out⟩)
    ·have hH:eU c2=true:=ot (by omega);have HH:=Z hH;clear hH;have hcv:=(dL w3 c1 c2 hd1.1 hd2.1).1;go_wp2_with fail;refine Met.intro (hJ2 _ _ ⟨Fr68.mk rfl rfl ⟨⟨rfl,HS.2.1,rfl⟩,rfl,⟨_,rfl,by rw[HH.out];exact(dL w3 c1 c2 hd1.1 hd2.1).2⟩⟩,⟨_,by rw[HH.out];exact H3.slack.keep ((Fr.refl w3).alloc _)⟩,HF3.keep ((Fr.refl w3).alloc _)⟩)
    ·have hH:eU c2=false:=pD (by omega);have HH:=Z hH;clear hH;go_wp2_with (go_at_call 66;refine(cw c2 H3).mono ?_;rintro e w4 ⟨rfl,h4,f4⟩;have H4:=Z h4;have HF4:=Z (HF3.trans f4);clear h4 f4);refine Met.intro (hJ2 _ _ ⟨Fr68.mk rfl rfl ⟨⟨rfl,HS.2.1,rfl⟩,rfl,⟨_,rfl,by rw[HH.out];exact cA hd1.1⟩⟩,⟨_,by rw[HH.out];exact H4.out⟩,HF4.out⟩)
    ·have hH:eU c2=true:=ot (by omega);have HH:=Z hH;clear hH;have hcv:=(dL w3 c1 c2 hd1.1 hd2.1).1;go_wp2_with fail;refine Met.intro (hJ2 _ _ ⟨Fr68.mk rfl rfl ⟨⟨rfl,HS.2.1,rfl⟩,rfl,⟨_,rfl,by rw[HH.out];exact(dL w3 c1 c2 hd1.1 hd2.1).2⟩⟩,⟨_,by rw[HH.out];exact H3.slack.keep ((Fr.refl w3).alloc _)⟩,HF3.keep ((Fr.refl w3).alloc _)⟩)
    ·have hH:eU c2=false:=pD (by omega);have HH:=Z hH;clear hH;go_wp2_with (go_at_call 66;refine(cw c2 H3).mono ?_;rintro e w4 ⟨rfl,h4,f4⟩;have H4:=Z h4;have HF4:=Z (HF3.trans f4);clear h4 f4);refine Met.intro (hJ2 _ _ ⟨Fr68.mk rfl rfl ⟨⟨rfl,HS.2.1,rfl⟩,rfl,⟨_,rfl,by rw[HH.out];exact cA hd1.1⟩⟩,⟨_,by rw[HH.out];exact H4.out⟩,HF4.out⟩)
    ·have hH:eU c2=true:=ot (by omega);have HH:=Z hH;clear hH;have hcv:=(dL w3 c1 c2 hd1.1 hd2.1).1;go_wp2_with fail;refine Met.intro (hJ2 _ _ ⟨Fr68.mk rfl rfl ⟨⟨rfl,HS.2.1,rfl⟩,rfl,⟨_,rfl,by rw[HH.out];exact(dL w3 c1 c2 hd1.1 hd2.1).2⟩⟩,⟨_,by rw[HH.out];exact H3.slack.keep ((Fr.refl w3).alloc _)⟩,HF3.keep ((Fr.refl w3).alloc _)⟩)
    ·have hH:eU c2=false:=pD (by omega);have HH:=Z hH;clear hH;go_wp2_with (go_at_call 66;refine(cw c2 H3).mono ?_;rintro e w4 ⟨rfl,h4,f4⟩;have H4:=Z h4;have HF4:=Z (HF3.trans f4);clear h4 f4);refine Met.intro (hJ2 _ _ ⟨Fr68.mk rfl rfl ⟨⟨rfl,HS.2.1,rfl⟩,rfl,⟨_,rfl,by rw[HH.out];exact cA hd1.1⟩⟩,⟨_,by rw[HH.out];exact H4.out⟩,HF4.out⟩)
end Go.Proofs.YtnclklfhjbkjhaaGreatDoor
namespace Go.Proofs.YtnclklfhjbkjhaaGreatDoor
open Go.RowKit Go.Lib
theorem sU{c:Int}(h:48≤c∧c≤55):dE c=true:=by
 simp only[dE,Bool.and_eq_true,decide_eq_true_eq];exact h
theorem pC{c:Int}(h:c<48∨55<c):dE c=false:=by
 cases e:dE c
 ·rfl
 ·simp only[dE,Bool.and_eq_true,decide_eq_true_eq] at e;omega
theorem r9(c:Int):cu c []=⟨bsl++enc c,[]⟩:=rfl
theorem sf{c c2:Int}{r:List Int}(h:dE c2=false):cu c (c2::r)=⟨b_ (enc c),c2::r⟩:=by
 simp only[cu];rw[if_neg (by rw[h];decide)]
theorem uy{c c2:Int}(h:dE c2=true):cu c [c2]=⟨bsl++enc c++enc c2,[]⟩:=by
 simp only[cu];rw[if_pos h]
theorem se{c c2 c3:Int}{r:List Int}(h:dE c2=true)(h3:dE c3=false):cu c (c2::c3::r)=⟨b_ (enc c++enc c2),c3::r⟩:=by
 simp only[cu];rw[if_pos h,if_neg (by rw[h3];decide)]
theorem wQ{c c2 c3:Int}{r:List Int}(h:dE c2=true)(h3:dE c3=true):cu c (c2::c3::r)=⟨b_ (enc c++enc c2++enc c3),r⟩:=by
 simp only[cu];rw[if_pos h,if_pos h3]
theorem jd{o:List UInt8}(h:cG 8 o=none∨∃i,cG 8 o=some i∧255<i):b_ o=bsl++o:=by
 unfold b_;rcases h with h|⟨i,h,hi⟩
 ·rw[h]
 ·rw[h];exact if_pos hi
theorem mP{o:List UInt8}{i:Int}(h:cG 8 o=some i)(hi:i≤255):b_ o=[dN i]:=by
 unfold b_;rw[h];exact if_neg (by omega)
theorem r8(C:RC)(lx rr T B:Nat)(A:Nat→Prop)(ok:Bool)(R:List Int)(p pv:Ps)(l:List UInt8)(q:Value)(t:ByteArray)(w:World)
  (H:Hid (BufSt C lx rr A ok T 0 R p pv B B l w)) (HL:Hid (l.length≤900000000)) (ht:t.size≤100) (HSG:Hid (SG w)):
  qZ (qT 60) lx B q (fun u=>u 15= .string t) w (EscP C lx rr T B A p pv l ⟨b_ t.toList,R⟩ w):=by
 intro a J K Q HF hJ hK;obtain⟨u,⟨hs,h15⟩,rfl⟩:=HF;have HS:=Z hs;have hls:=HL.out;have hls9:l.length≤1000000000:=by omega
 unfold bC;rw[hs.1,hs.2.2,h15];clear hs h15
 conv=>arg 2;whnf
 go_wp2_with first
  |(go_at_call 100;refine(dd t 8 (.inl rfl) _ (by omega) HSG).mono ?_;rintro e w2 ⟨v,ev,rfl,k2,(⟨hp,rfl⟩|⟨hp,T',a',rfl⟩)⟩<;>refine Hid.out ?_)
 ·refine Z ?_;have H2:=Z (H.keep k2);have HP:=Z hp;have HF2:Hid (Fr (LxF C lx A) w w2):=Z ((Fr.refl w).keep k2);clear hp k2;by_cases hv:255<v
  ·have HV:=Z hv;go_wp2_with first
    |(go_at_call 98;refine(aX 92 H2 hls9).mono ?_;rintro e w5 ⟨rfl,h5,f5⟩;have H5:=Z h5;have HF5:=Z (HF2.trans f5);clear h5 f5)
    |(go_at_call 101;refine(ez t H5.out (by rw[qk];simp;omega) (by omega)).mono ?_;rintro e w7 ⟨⟨n7,rfl⟩,h7,f7⟩;have H7:=Z h7;have HF7:=Z (HF5.trans f7);clear h7 f7)
   refine Met.intro (hJ _ _ ⟨Fr68.mk rfl rfl ⟨rfl,HS.2.1,rfl⟩,⟨⟨_,by rw[jd (.inr ⟨v,HP.out,HV.out⟩)];simpa only[qs,bsl] using H7.out⟩,HF7.out⟩⟩)
  ·have hv':v≤255:=by omega
   have HV:=Z hv';have hb:=iq v;go_wp2_with (go_at_call 98;refine(aX (dN v) H2 hls9).mono ?_;rintro e w5 ⟨rfl,h5,f5⟩;have H5:=Z h5;have HF5:=Z (HF2.trans f5);clear h5 f5);refine Met.intro (hJ _ _ ⟨Fr68.mk rfl rfl ⟨rfl,HS.2.1,rfl⟩,⟨⟨_,by rw[mP HP.out HV.out];exact H5.out⟩,HF5.out⟩⟩)
 ·refine Z ?_;have H2:=Z (H.keep k2);have HP:=Z hp;have HF2:Hid (Fr (LxF C lx A) w w2):=Z ((Fr.refl w).keep k2);clear hp k2;go_wp2_with first
   |(go_at_call 98;refine(aX 92 H2 hls9).mono ?_;rintro e w5 ⟨rfl,h5,f5⟩;have H5:=Z h5;have HF5:=Z (HF2.trans f5);clear h5 f5)
   |(go_at_call 101;refine(ez t H5.out (by rw[qk];simp;omega) (by omega)).mono ?_;rintro e w7 ⟨⟨n7,rfl⟩,h7,f7⟩;have H7:=Z h7;have HF7:=Z (HF5.trans f7);clear h7 f7)
  refine Met.intro (hJ _ _ ⟨Fr68.mk rfl rfl ⟨rfl,HS.2.1,rfl⟩,⟨⟨_,by rw[jd (.inl HP.out)];simpa only[qs,bsl] using H7.out⟩,HF7.out⟩⟩)
theorem wP(C:RC)(lx rr T B:Nat)(A:Nat→Prop)(d:Int)(R:List Int)(p pv:Ps)(l:List UInt8)(q:Value)(w:World)
  (H:Hid (BufSt C lx rr A true T 1 R p pv B B l w)) (HL:Hid (l.length≤900000000)) (HCP:Hid (Cp (d::R))) (HSG:Hid (SG w)) (HLW:Hid (¬A 11∧¬A 12)):
  qZ (qT 43) lx B q (fun u=>u 6= .int .i32 d) w (EscP C lx rr T B A p pv l (cu d R) w):=by
 intro a J K Q HF hJ hK;obtain⟨u,⟨hs,h6⟩,rfl⟩:=HF;have HS:=Z hs;have hls:=HL.out;have hls9:l.length≤1000000000:=by omega
 have hd0:=HCP.head;have c4:=H.st.cell;unfold bC;rw[hs.1,hs.2.2,h6];clear hs h6
 conv=>arg 2;whnf
 go_wp2_with first
  |(go_at_call 62;refine(dG H.slack).mono ?_;rintro e w2 ⟨f2,(⟨hR,h2,b,rfl⟩|⟨c2,R2,hR,h2,rfl⟩)⟩<;>refine Hid.out ?_)
 ·refine Z ?_;have HR:=Z hR;have H2:=Z h2;have HF2:=Z f2;clear hR h2 f2;go_wp2_with first
   |(go_at_call 98;refine(aX 92 H2 hls9).mono ?_;rintro e w5 ⟨rfl,h5,f5⟩;have H5:=Z h5;have HF5:=Z (HF2.trans f5);clear h5 f5)
   |(go_at_call 99;refine(bJ d (by omega) (by omega) H5.out (by rw[qk];simp;omega)).mono ?_;rintro e w6 ⟨⟨n6,rfl⟩,h6,f6⟩;have H6:=Z h6;have HF6:=Z (HF5.trans f6);clear h6 f6)
  refine Met.intro (hJ _ _ ⟨Fr68.mk rfl rfl ⟨rfl,HS.2.1,rfl⟩,⟨⟨_,by rw[HR.out,r9];simpa only[qs,bsl] using H6.out⟩,HF6.out⟩⟩)
 ·refine Z ?_;have HR:=Z hR;have H2:=Z h2;have HF2:=Z f2;have hcp2:=HCP.tail;rw[hR] at hcp2;have HCP2:=Z hcp2;have hd1:=hcp2.head;have c5:=h2.st.cell;clear hR h2 f2 hcp2;go_upto_region 47 with fail;go_step;go_step;go_step;go_step;go_step;go_step;go_step;go_step;refine wp_cut (fun a' w'=>∃t R',Fr68 (fun u=>dh lx B q u∧u 15= .string t) a'∧cu d R=⟨b_ t.toList,R'⟩∧t.toList.length≤100∧(∃ok,BufSt C lx rr A ok T 0 R' p pv B B l w')∧Fr (LxF C lx A) w w') ?rest ?first
  case rest=>
   rintro a' wc ⟨t,R',⟨u,⟨hs,h15⟩,rfl⟩,he,ht,⟨ok,h⟩,f⟩;have hsg:SG wc:=HSG.fr f HLW h.st.la;rw[←cM] at ht;go_step;refine r8 C lx rr T B A ok R' p pv l q t wc (Z h) HL ht (Z hsg) _ J K Q ⟨u,⟨hs,h15⟩,rfl⟩ ?_ hK;rintro a2 w2 ⟨hf,hx⟩;exact hJ _ _ ⟨hf,⟨by rw[he];exact hx.st,f.trans hx.fr⟩⟩
  case first=>
   intro J2 K2 hJ2 hK2;have hk:c2<48∨(48≤c2∧c2≤55)∨55<c2:=by omega
   rcases hk with k|⟨k0,k1⟩|k
   ·have HH:=Z (pC (c:=c2) (by omega));go_wp2_with (go_at_call 66;refine(cw c2 H2).mono ?_;rintro e w4 ⟨rfl,h4,f4⟩;have H4:=Z h4;have HF4:=Z (HF2.trans f4);clear h4 f4);refine Met.intro (hJ2 _ _ ⟨_,c2::R2,Fr68.mk rfl rfl ⟨⟨rfl,HS.2.1,rfl⟩,rfl⟩,by rw[HR.out,sf HH.out,cA hd0.1],by have:=aI d;rw[cA hd0.1];omega,⟨_,H4.out⟩,HF4.out⟩)
   ·have HH:=Z (sU ⟨k0,k1⟩);go_wp2_with first
     |(go_at_call 62;refine(dG H2.slack).mono ?_;rintro e w3 ⟨f3,(⟨hR,h3,b,rfl⟩|⟨c3,R3,hR,h3,rfl⟩)⟩<;>refine Hid.out ?_)
    ·refine Z ?_;have HR3:=Z hR;have H3:=Z h3;have HF3:=Z (HF2.trans f3);clear hR h3 f3;go_wp2_with first
      |(go_at_call 98;refine(aX 92 H3 hls9).mono ?_;rintro e w5 ⟨rfl,h5,f5⟩;have H5:=Z h5;have HF5:=Z (HF3.trans f5);clear h5 f5)
      |(go_at_call 99;(with_reducible refine(bJ d (by omega) (by omega) H5.out (by rw[qk];simp;omega)).mono ?_);rintro e w6 ⟨⟨n6,rfl⟩,h6,f6⟩;have H6:=Z h6;have HF6:=Z (HF5.trans f6);clear h6 f6)
      |(go_at_call 99;(with_reducible refine(bJ c2 (by omega) (by omega) H6.out (by have:=aI d;rw[qk,qk];simp;omega)).mono ?_);rintro e w7 ⟨⟨n7,rfl⟩,h7,f7⟩;have H7:=Z h7;have HF7:=Z (HF6.trans f7);clear h7 f7)
     refine Met.intro (hJ _ _ ⟨Fr68.mk rfl rfl ⟨rfl,HS.2.1,rfl⟩,⟨⟨_,by rw[HR.out,HR3.out,uy HH.out];simpa only[qs,bsl] using H7.out⟩,HF7.out⟩⟩)
    ·refine Z ?_;have HR3:=Z hR;have H3:=Z h3;have HF3:=Z (HF2.trans f3);have hcp3:=HCP2.tail;rw[hR] at hcp3;have hd2:=hcp3.head;have c6:=h3.st.cell;clear hR h3 f3 hcp3;have hl2:(enc d++enc c2).length≤100:=by
      have h1:=aI d;have h2:=aI c2;rw[qk];omega
     have hl3:(enc d++enc c2++enc c3).length≤100:=by
      have h1:=aI d;have h2:=aI c2;have h3:=aI c3;rw[qk,qk];omega
     have HL2:=Z hl2;have HL3:=Z hl3;clear hl2 hl3;have hk:c3<48∨(48≤c3∧c3≤55)∨55<c3:=by omega
     rcases hk with k|⟨k2,k3⟩|k
     ·have HH3:=Z (pC (c:=c3) (by omega));go_wp2_with (go_at_call 66;refine(cw c3 H3).mono ?_;rintro e w4 ⟨rfl,h4,f4⟩;have H4:=Z h4;have HF4:=Z (HF3.trans f4);clear h4 f4;have hcv:=(dL w4 d c2 hd0.1 hd1.1).1;have HX:=Z (dL w4 d c2 hd0.1 hd1.1).2);refine Met.intro (hJ2 _ _ ⟨_,c3::R3,Fr68.mk rfl rfl ⟨⟨rfl,HS.2.1,rfl⟩,rfl⟩,by rw[HR.out,HR3.out,se HH.out HH3.out,HX.out],by rw[HX.out];exact HL2.out,⟨_,H4.keep ((Fr.refl w4).alloc _)⟩,HF4.keep ((Fr.refl w4).alloc _)⟩)
     ·have HH3:=Z (sU ⟨k2,k3⟩);have hcv:=(tq w3 d c2 c3 hd0.1 hd1.1 hd2.1).1;have HX:=Z (tq w3 d c2 c3 hd0.1 hd1.1 hd2.1).2;go_wp2_with fail;refine Met.intro (hJ2 _ _ ⟨_,R3,Fr68.mk rfl rfl ⟨⟨rfl,HS.2.1,rfl⟩,rfl⟩,by rw[HR.out,HR3.out,wQ HH.out HH3.out,HX.out],by rw[HX.out];exact HL3.out,⟨_,H3.slack.keep ((Fr.refl w3).alloc _)⟩,HF3.keep ((Fr.refl w3).alloc _)⟩)
     ·have HH3:=Z (pC (c:=c3) (by omega));go_wp2_with (go_at_call 66;refine(cw c3 H3).mono ?_;rintro e w4 ⟨rfl,h4,f4⟩;have H4:=Z h4;have HF4:=Z (HF3.trans f4);clear h4 f4;have hcv:=(dL w4 d c2 hd0.1 hd1.1).1;have HX:=Z (dL w4 d c2 hd0.1 hd1.1).2);refine Met.intro (hJ2 _ _ ⟨_,c3::R3,Fr68.mk rfl rfl ⟨⟨rfl,HS.2.1,rfl⟩,rfl⟩,by rw[HR.out,HR3.out,se HH.out HH3.out,HX.out],by rw[HX.out];exact HL2.out,⟨_,H4.keep ((Fr.refl w4).alloc _)⟩,HF4.keep ((Fr.refl w4).alloc _)⟩)
   ·have HH:=Z (pC (c:=c2) (by omega));go_wp2_with (go_at_call 66;refine(cw c2 H2).mono ?_;rintro e w4 ⟨rfl,h4,f4⟩;have H4:=Z h4;have HF4:=Z (HF2.trans f4);clear h4 f4);refine Met.intro (hJ2 _ _ ⟨_,c2::R2,Fr68.mk rfl rfl ⟨⟨rfl,HS.2.1,rfl⟩,rfl⟩,by rw[HR.out,sf HH.out,cA hd0.1],by have:=aI d;rw[cA hd0.1];omega,⟨_,H4.out⟩,HF4.out⟩)
theorem vq:cH (· =120):=by
 intro C lx rr T B A d R p pv l q w a J K Q hd H4 HL HCP HSG HLW HF hJ hK;obtain⟨u,⟨hs,h6,h66⟩,rfl⟩:=HF;have HS:=Z hs;have hls:=HL.out;have hls9:l.length≤1000000000:=by omega
 obtain rfl:d=120:=hd;unfold bC;rw[hs.1,hs.2.2,h6,h66];clear hs h6 h66
 conv=>arg 2;whnf
 go_upto_if 70 with fail;go_step;go_upto_if 70 with fail;go_step;refine sQ C lx rr T B A 120 R p pv l q w H4 HL HCP HSG HLW _ J K Q (Fr68.mk rfl rfl ⟨⟨rfl,HS.2.1,rfl⟩,rfl⟩) ?_ hK;rintro a2 w2 ⟨hf,hx⟩;exact hJ _ _ ⟨hf,by rw[xi];exact hx⟩
theorem xI:cH (· =88):=by
 intro C lx rr T B A d R p pv l q w a J K Q hd H4 HL HCP HSG HLW HF hJ hK;obtain⟨u,⟨hs,h6,h66⟩,rfl⟩:=HF;have HS:=Z hs;have hls:=HL.out;have hls9:l.length≤1000000000:=by omega
 obtain rfl:d=88:=hd;unfold bC;rw[hs.1,hs.2.2,h6,h66];clear hs h6 h66
 conv=>arg 2;whnf
 go_upto_if 70 with fail;go_step;go_upto_if 70 with fail;go_step;refine sQ C lx rr T B A 88 R p pv l q w H4 HL HCP HSG HLW _ J K Q (Fr68.mk rfl rfl ⟨⟨rfl,HS.2.1,rfl⟩,rfl⟩) ?_ hK;rintro a2 w2 ⟨hf,hx⟩;exact hJ _ _ ⟨hf,by rw[yM];exact hx⟩
theorem yY:cH (dE · =true):=by
 intro C lx rr T B A d R p pv l q w a J K Q hd H4 HL HCP HSG HLW HF hJ hK;obtain⟨u,⟨hs,h6,h66⟩,rfl⟩:=HF;have HS:=Z hs;have hls:=HL.out;have hls9:l.length≤1000000000:=by omega
 have HD:=Z hd;have hk:d=48∨d=49∨d=50∨d=51∨d=52∨d=53∨d=54∨d=55:=by
  simp only[dE,Bool.and_eq_true,decide_eq_true_eq] at hd;omega
 clear hd;have q120:(d==120)=false:=bf (by omega);have q88:(d==88)=false:=bf (by omega);unfold bC;rw[hs.1,hs.2.2,h6,h66];clear hs h6 h66
 conv=>arg 2;whnf
 go_upto_if 70 with fail;go_step;go_upto_if 70 with fail;go_step;go_step;refine wp_cut (fun a' w'=>Fr68 (fun u=>dh lx B q u∧u 6= .int .i32 d∧u 150= .bool true) a'∧w'=w) ?rest ?first
 case rest=>
  rintro a' wc ⟨⟨u,⟨hs,h6,h150⟩,rfl⟩,rfl⟩;have HS:=Z hs;unfold bC;rw[hs.1,hs.2.2,h6,h150];clear hs h6 h150;go_step;go_step;refine wP C lx rr T B A d R p pv l q _ H4 HL HCP HSG HLW _ J K Q (Fr68.mk rfl rfl ⟨⟨rfl,HS.2.1,rfl⟩,rfl⟩) ?_ hK;rintro a2 w2 ⟨hf,hx⟩;exact hJ _ _ ⟨hf,by rw[zq HD.out];exact hx⟩
 case first=>
  intro J2 K2 hJ2 hK2;clear hJ hK;clear q120 q88;rcases hk with rfl|rfl|rfl|rfl|rfl|rfl|rfl|rfl
  all_goals
   go_wp2_with fail;exact Met.intro (hJ2 _ _ ⟨Fr68.mk rfl rfl ⟨⟨rfl,HS.2.1,rfl⟩,rfl,rfl⟩,rfl⟩)
end Go.Proofs.YtnclklfhjbkjhaaGreatDoor
